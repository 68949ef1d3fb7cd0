import PyProof.Rows.All
import Wide.All
import OpenK.AllK
import Wide.FinOn
import KE.KRevIter
import KE.KPar
import KE.KBoundM
import KE.KItemsList
import PyProof.SliceList
import PyProof.RulesDelMore
import PyProof.Rows.AttrNodeAny
import PyProof.Rows.StrSub
import PyProof.CompUse
import PyProof.SetScanFacts
import PyProof.CollectWalk
import PyProof.FactsAll.set_1
import PyProof.SetRoads
import KE.KSortKey
import KE.KLam
import PyProof.DictCompW
import PyProof.DictRoads
import PyProof.DictTruth
import PyProof.ListIndexNeg
import KE.KSetDisp
import PyProof.Rows.StrSplitMax
import PyProof.RangeFor
import PyProof.IsiH_list
import PyProof.IsiH_set
import PyProof.EnumStmt
import PyProof.EnumMake
import PyProof.StrCalls2
import KE.KSortAsk
import KE.KSortTup
import PyProof.NeKinds
import PyProof.WalksPairs
import KE.KDictList
import PyProof.DictDisplay
import KE.KIntText
import PyProof.FitsReplace
import KE.KNest
import KE.KSlice
import PyProof.SliceMore
import PyProof.ListRange
import PyProof.StrLawsTight
import PyProof.StrLawsReplace
import PyProof.StrLawsOccR
import PyProof.Rows.StrClose3
import PyProof.Rows.CatFin
import PyProof.Rows.StrItems
import PyProof.Rows.StrLawsPart
import Lean
import PySem.Challenge.RW_rs0229_01
open PySem PySem.W PySem.Calls PyProof.Rows
set_option Elab.async false
set_option maxRecDepth 100000
set_option maxHeartbeats 8000000
set_option linter.all false
set_option compiler.extract_closed false
set_option genSizeOf false
set_option genInjectivity false
namespace R3
open PySem.W.X
theorem omC {a b:Nat} (h:Nat.ble (a+1) b = true):a < b:=Nat.le_of_ble_eq_true h
theorem omU {u a b c d:Nat} (h:u + a < c) (k:b≤a) (l:c≤d):u + b < d:=Nat.lt_of_le_of_lt (Nat.add_le_add_left k u) (Nat.lt_of_lt_of_le h l)
theorem omL {a b c:Nat} (h:a < b) (k:b≤c + 1):a≤c:=Nat.le_of_lt_succ (Nat.lt_of_lt_of_le h k)
theorem omQ {a b c:Nat} (h:a = b) (k:b≤c):a≤c:=h ▸ k
theorem omR {n i k:Nat} (h:n - i = k + 1):n - (i + 1) = k:=(Nat.sub_succ n i).trans (congrArg Nat.pred h)
theorem omI {n i k:Nat} (h:n - i = k + 1):i < n:=Nat.lt_of_sub_eq_succ h
open Lean in
def mkN (k : Name) (a : Array Syntax) : Syntax := .node .none k a
open Lean in
def mkU (a : Array Syntax) : Syntax := mkN `null a
open Lean in
def mkK (k : String) (a : Array Syntax) : Syntax := mkN (.str `Lean.Parser.Tactic k) a
open Lean in
def mkTK (k : String) (a : Array Syntax) : Syntax := mkN (.str `Lean.Parser.Term k) a
open Lean in
def mkSq (a : Array Syntax) : Syntax := mkK "tacticSeq" #[mkK "tacticSeq1Indented" #[mkU a]]
open Lean in
def mkAt (s : String) : Syntax := .atom .none s
open Lean in
def mkTm (s : String) : Syntax := .ident .none s.toRawSubstring s.toName []
open Lean in
def mkCf : Syntax := mkK "optConfig" #[mkU #[]]
open Lean in
def mkLs (l : List String) : Syntax := mkU #[mkAt "[", mkU (l.foldl (fun a x => (if a.isEmpty then a else a.push (mkAt ",")).push (mkK "simpLemma" #[mkU #[], mkU #[], mkTm x])) #[]), mkAt "]"]
/-- word, kind, shape: 1 a tactic behind it, 2 a term behind it, 3 to 6 nothing -/
def mkKw : List (String × String × Nat) := [("with_reducible", "withReducible", 1), ("repeat", "tacticRepeat_", 1), ("refine", "refine", 2), ("refine'", "refine'", 2), ("exact", "exact", 2), ("apply", "apply", 2), ("show", "show", 2), ("assumption", "assumption", 3), ("rfl", "tacticRfl", 3), ("done", "done", 3), ("decide", "decide", 4), ("lia", "lia", 4), ("omega", "omega", 4), ("fail", "fail", 5), ("intro", "intro", 6)]
open Lean in
/-- a tactic's text (words parted by blanks) as syntax: m = 0 a row of tactics, 1 a tactic, 2 a term, 3 a term's part, 4 the ways of a first, 5 a term's parts; g gives a hole's name its scope -/
def mkP (g : Name → Name) : Nat → Nat → Array Syntax → List String → Syntax × List String
  | n + 1, m, acc, w :: r =>
    let two (k : Nat) (f : Syntax → Syntax) (r : List String) : Syntax × List String := (mkP g n k #[] r).map f id
    if m == 0 then
      let q := mkP g n 1 #[] (w :: r)
      if q.2.head? == some ";" then mkP g n 0 ((acc.push q.1).push (mkAt ";")) q.2.tail else (mkSq (acc.push q.1), q.2)
    else if m == 4 then
      if w == "|" then
        let q := mkP g n 0 #[] r
        mkP g n 4 (acc.push (mkN `group #[mkAt "|", q.1])) q.2
      else (mkK "first" #[mkAt "first", mkU acc], w :: r)
    else if m == 5 then
      if [")", "|", ";", "<;>"].contains w then (mkU acc, w :: r) else
      let q := mkP g n 3 #[] (w :: r)
      mkP g n 5 (acc.push q.1) q.2
    else if w == "by" then two 0 (fun t => mkTK "byTactic" #[mkAt w, t]) r
    else if m == 2 then
      let q := mkP g n 3 #[] (w :: r)
      two 5 (fun a => if a.getNumArgs == 0 then q.1 else mkTK "app" #[q.1, a]) q.2
    else if m == 3 then
      if w == "(" then
        if r.tail.head? == some ":=" then
          let q := mkP g n 2 #[] (r.drop 2)
          (mkTK "namedArgument" #[mkAt "(", mkTm (r.headD ""), mkAt ":=", q.1, mkAt ")"], q.2.tail)
        else
          let q := mkP g n 2 #[] r
          (q.1, q.2.tail)
      else if w == "_" then (mkTK "hole" #[mkAt w], r)
      else if w == "?_" then (mkTK "syntheticHole" #[mkAt "?", mkAt "_"], r)
      else if w == "?" then (mkTK "syntheticHole" #[mkAt w, mkIdent (g (r.headD "").toName)], r.tail)
      else if w == "funwu" then (mkTK "fun" #[mkAt "fun", mkTK "basicFun" #[mkU #[mkTK "hole" #[mkAt "_"]], mkU #[], mkAt "=>", mkTK "byTactic" #[mkAt "by", mkSq #[mkK "withUnfoldingAll" #[mkAt "with_unfolding_all", mkSq #[mkK "tacticRfl" #[mkAt "rfl"]]]]]]], r)
      else if w.front == '"' then (Syntax.mkStrLit ((w.drop 1).dropEnd 1).toString, r)
      else (if w.front.isDigit then Syntax.mkNumLit w else mkTm w, r)
    else if w == "first" then mkP g n 4 #[] r
    else if w == "(" then
      let q := mkP g n 0 #[] r
      let p := mkK "paren" #[mkAt w, q.1, mkAt ")"]
      if q.2.tail.head? == some "<;>" then two 1 (fun u => mkK "tactic_<;>_" #[p, mkAt "<;>", u]) (q.2.drop 2) else (p, q.2.tail)
    else if w == "case" then two 0 (fun t => mkK w #[mkAt w, mkU #[mkK "caseArg" #[mkN `Lean.binderIdent #[mkIdent (g (r.headD "").toName)], mkU #[]]], mkAt "=>", t]) r.tail
    else if w == "krfl" then (mkN (.str `PyProof.Rows "tacticKernel_rfl!") #[mkAt "kernel_rfl!"], r)
    else if w == "dsimp" || w == "simp" then (mkK w #[mkAt w, mkCf, mkU #[], mkU #[mkAt "only"], mkLs (r.takeWhile (· != "]")), mkU (if w == "simp" then #[mkK "location" #[mkAt "at", mkK "locationWildcard" #[mkAt "*"]]] else #[])], (r.dropWhile (· != "]")).tail)
    else if w == "unfold" then (mkK w #[mkAt w, mkU #[mkTm (r.headD "")], mkU #[]], r.tail)
    else if w == "rwby" then two 3 (fun e => mkK "rwSeq" #[mkAt "rw", mkCf, mkK "rwRuleSeq" #[mkAt "[", mkU #[mkK "rwRule" #[mkU #[], mkTK "typeAscription" #[mkTK "hygienicLParen" #[mkAt "(", mkN `hygieneInfo #[mkTm ""]], mkTK "byTactic" #[mkAt "by", mkSq #[mkK "assumption" #[mkAt "assumption"]]], mkAt ":", mkU #[e], mkAt ")"]]], mkAt "]"], mkU #[]]) r
    else match mkKw.lookup w with
      | some (k, s) => if s == 1 then two 1 (fun e => mkK k #[mkAt w, mkSq #[e]]) r else if s == 2 then two 2 (fun e => mkK k #[mkAt w, e]) r else (mkK k (if s == 3 then #[mkAt w] else #[mkAt w, if s == 4 then mkCf else mkU (if s == 5 then #[] else #[mkTK "hole" #[mkAt "_"]])]), r)
      | none => (mkN `PySem.W.tacticWtm_at_ #[mkAt "wtm_at", Syntax.mkStrLit w], r)
  | _, m, acc, ts => (if m == 4 then mkK "first" #[mkAt "first", mkU acc] else mkU acc, ts)
def mkTab : List (String × String) := [
("om", "first | with_reducible exact Nat.le_of_ble_eq_true rfl | with_reducible exact omC rfl | with_reducible assumption | with_reducible ( apply Nat.le_trans ; assumption ; exact Nat.le_of_ble_eq_true rfl ) | with_reducible ( apply Nat.lt_of_lt_of_le ; assumption ; exact Nat.le_of_ble_eq_true rfl ) | with_reducible ( apply Nat.lt_of_le_of_lt ; assumption ; exact omC rfl ) | with_reducible ( apply omL ; assumption ; exact Nat.le_of_ble_eq_true rfl ) | with_reducible ( apply omQ ; assumption ; exact Nat.le_of_ble_eq_true rfl ) | with_reducible ( apply omU ; assumption ; exact Nat.le_of_ble_eq_true rfl ; exact Nat.le_of_ble_eq_true rfl ) | with_reducible ( apply omR ; assumption ) | with_reducible ( apply omI ; assumption ) | lia | omega"),
("r_pos", "first | assumption | exact Nat.succ_pos _ | exact Sat.tk ( by assumption ) | exact Nat.lt_of_lt_of_le ( Sat.tk ( by assumption ) ) ( Nat.le_add_right _ _ )"),
("r_mem", "first | assumption | ( repeat ( first | exact List.Mem.head _ | assumption | exact List.mem_append_left _ ( by assumption ) | refine List.Mem.tail _ ?_ ) )"),
("r_mf", "first | assumption | ( ( repeat ( first | exact List.Mem.head _ | assumption | exact List.mem_append_left _ ( by assumption ) | refine List.Mem.tail _ ?_ ) ) <;> fail )"),
("r_upd", "( repeat ( first | exact Upd.head | assumption | apply Upd.tail ) )"),
("r_sat", "first | assumption | exact Sat.tok ( by assumption ) _"),
("r_k", "first | krfl | ( ( rwby ( Eq ( Cx.K _ ) ( KK _ ) ) ) ; krfl )"),
("r_sub", "( repeat ( first | exact List.Sublist.refl _ | apply List.Sublist.cons_cons | apply List.Sublist.cons ) )"),
("r_le", "first | exact Nat.le_of_ble_eq_true rfl | ( simp List.length_append List.length_map List.length_cons List.length_nil ] ; om )"),
("r_glob", "( ( rwby ( Eq ( Cx.K _ ) ( KK _ ) ) ) ; first | with_reducible exact gEntry | with_reducible exact gmerge_entries | with_reducible exact gC14NWriterTarget | with_reducible exact g_escape_attrib_c14n | with_reducible exact g_law_rule | with_reducible exact g_law_spelled | with_reducible exact g_law_numbers_and_places | with_reducible exact g_law_whole )"),
("r_bui", "first | with_reducible exact bset | with_reducible exact blist | with_reducible exact blen | with_reducible exact bsum | with_reducible exact brange | with_reducible exact benumerate | with_reducible exact bfilter | with_reducible exact bsorted | with_reducible exact bint | with_reducible exact bstr"),
("r_lk", "( repeat ( first | with_reducible exact lk_head | with_reducible assumption | with_reducible exact lk_nil | ( with_reducible refine lk_tail ( by krfl ) ?_ ) ) )"),
("r_cls", "first | exact clsW ( by assumption ) ( by krfl ) | exact clsE ( by assumption ) ( by krfl )"),
("r_meth", "first | with_reducible exact m199_iter_namespaces ( by assumption ) | with_reducible exact m199_qname ( by assumption ) | with_reducible exact m199start ( by assumption ) | with_reducible exact m199_start ( by assumption ) | with_reducible exact m199end ( by assumption ) | with_reducible exact m76applies_to ( by assumption ) | with_reducible exact m76allowance ( by assumption )"),
("t_vs", "first | refine Vs_ref ?_ | refine Vs_str ?_ | refine Vs_int ?_ | refine Vs_bool ?_ | refine Vs_none ?_ | dsimp Vs er ]"),
("r_mr", "with_reducible ( first | assumption | ( ( repeat ( first | exact List.mem_cons_self | assumption | exact List.mem_append_left _ ( by assumption ) | refine List.mem_cons_of_mem _ ?_ ) ) <;> fail ) )"),
("r_ur", "( ( repeat ( first | exact Upd.head | assumption | apply Upd.tail ) ) <;> fail )"),
("r_len", "first | exact Nat.le_of_ble_eq_true rfl | assumption | ( simp Str.length_append List.length_append List.length_map List.length_cons List.length_nil ] ; om )"),
("t_look", "first | ( r_lk ; done ) | assumption | exact rfl"),
("t_vq", "first | refine VsQ_ref ?_ | refine VsQ_str ?_ | refine VsQ_int ?_ | refine VsQ_bool ?_ | refine VsQ_none ?_ | ( unfold VsQ ; dsimp Vs er ] )"),
("t_name", "( ( with_reducible refine T_Name ?_ ) ; first | ( refine T_ldL' ( by rfl ) ( by rfl ) ( by r_mf ) ( by t_look ) ?_ ; t_vq ) | refine T_ldG ( by rfl ) ( by rfl ) ( by rfl ) ( by r_glob ) ?_ | refine T_ldB ( by rfl ) ( by rfl ) ( by rfl ) ( by rfl ) ( by r_bui ) ( by r_k ) ( by decide ) ?_ | ( refine T_ldC' ( by rfl ) ( by rfl ) ( by rfl ) ( by r_mf ) ?_ ; t_vq ) )"),
("t_st", "first | refine T_stL ( by r_ur ) ( by rfl ) ( by rfl ) ?_ | refine T_stC ( by rfl ) ( by r_ur ) ( by rfl ) ( by rfl ) ?_"),
("t_getA", "( refine' T_getA' ? m1 ? m2 ? m4 ? m3 ? m7 ?_ ; ( case m1 r_mem ) ; ( case m2 r_mem ) ; ( case m4 r_cls ) ; ( case m3 t_look ) ; ( case m7 exact rfl ) ; ( t_vq ) )"),
("t_setA", "( refine' T_setD ? m1 ? m2 ? m3 ? mi ? m7 ?_ ; ( case m1 r_mem ) ; ( case m2 r_upd ) ; ( case mi krfl ) ; ( case m3 r_cls ) ; ( case m7 r_le ) )"),
("t_mth", "first | ( refine' T_mth ? m1 ? m2 ? m3 ? m4 ?_ ; ( case m1 r_mem ) ; ( case m2 r_mem ) ; ( case m3 r_meth ) ; ( case m4 krfl ) ) | ( refine' T_mthOwn ? m1 ? m2 ? m3 ? m4 ? m5 ?_ ; ( case m1 r_mem ) ; ( case m2 r_mem ) ; ( case m3 r_cls ) ; ( case m4 t_look ) ; ( case m5 exact rfl ) ; ( t_vs ) ) | ( ( with_reducible show T _ _ _ _ _ ( getMethod _ ( Str.ofString \"append\" ) _ ) _ _ ) ; refine T_gmAppend ( by r_mr ) ?_ ) | ( ( with_reducible show T _ _ _ _ _ ( getMethod _ ( Str.ofString \"extend\" ) _ ) _ _ ) ; refine T_gmExtend ( by r_mr ) ?_ ) | ( ( with_reducible show T _ _ _ _ _ ( getMethod _ ( Str.ofString \"pop\" ) _ ) _ _ ) ; refine T_gmPop ( by r_mr ) ?_ )"),
("t_exec", "first | with_reducible refine T_If ?_ | with_reducible refine T_AssignN ?_ | with_reducible refine T_AssignA ?_ | with_reducible refine T_Return ?_ | with_reducible refine T_Return0 ?_ | with_reducible refine T_Expr ?_ | with_reducible refine T_AugA ?_ | with_reducible refine T_For ?_ funwu"),
("t_test", "first | with_reducible refine T_tCmp ?_ | with_reducible refine T_tAnd0 ?_ | with_reducible refine T_tAnd ?_ | with_reducible refine T_tOr0 ?_ | with_reducible refine T_tOr ?_ | with_reducible refine T_tV ?_"),
("t_expr", "first | t_name | with_reducible refine T_Bin ?_ | with_reducible refine T_MCall ?_ | with_reducible refine T_Call ?_ | with_reducible refine T_Attr ?_ | with_reducible refine T_Sub ?_ | with_reducible refine T_Cmp ?_ | with_reducible refine T_cNone ?_ | with_reducible refine T_cBool ?_ | with_reducible refine T_List ?_ | with_reducible refine T_Tuple ?_ | with_reducible refine T_IfExp ?_ | ( with_reducible refine T_cStr ?_ ; intro ) | ( with_reducible refine T_cInt ?_ ; intro ) | ( with_reducible refine T_Dict0 ?_ ; intro )"),
("t_cmp", "first | with_reducible refine T_isN ?_ | with_reducible refine T_isNN ?_ | with_reducible refine T_neS ?_ | with_reducible refine T_inS ?_ | with_reducible refine T_ltI ?_ | with_reducible refine T_eqI ?_"),
("t_tr", "first | with_reducible refine T_trB ?_ | with_reducible refine T_trN ?_ | with_reducible refine T_trI ?_ | refine T_trL ( by r_mr ) ( by r_len ) ?_"),
("t_call", "first | ( ( with_reducible show T _ _ _ _ _ ( call ( Value.builtin \"list.append\" ) _ _ ) _ _ ) ; refine T_append ( by r_ur ) ( by r_len ) ?_ ) | ( with_reducible refine T_lenS ? a1 ?_ ; ( case a1 r_len ) ; intro ) | ( with_reducible refine T_endswith ?_ )"),
("t_cw", "first | with_reducible refine T_callB ?_ | with_reducible refine T_callB0 ?_ | with_reducible refine T_callT ?_ | ( ( with_reducible refine' T_callK ? k1 ?_ ( he := ? he0 ) ( hp := ? hp0 ) ) ; ( case he0 rfl ) ; ( case hp0 rfl ) ; ( case k1 exact keep_of ( by assumption ) ( by decide ) ) ) | ( with_reducible refine' T_callK0 ? k1 ?_ ; ( case k1 exact keep_of ( by assumption ) ( by decide ) ) ) | refine T_callBnd ( by r_mr ) ?_ ( he := by rfl ) ( hp := by rfl )"),
("t_gm", "first | with_reducible refine T_gmSplit ?_ | with_reducible refine T_gmLower ?_ | with_reducible refine T_gmUpper ?_ | with_reducible refine T_gmEndswith ?_ | with_reducible refine T_gmJoin ?_ | ( ( with_reducible show T _ _ _ _ _ ( getMethod ( Value.ref _ ) _ _ ) _ _ ) ; t_mth )"),
("t_ev", "first | ( ( ( with_reducible refine T_addI ?_ ) ; intro ) ) | ( ( with_reducible refine T_neg ?_ ) ) | ( ( ( with_reducible refine T_negI ?_ ) ; intro ) ) | ( first | ( ( with_reducible show T _ _ _ _ _ ( eval _ _ ) _ _ ) ; t_expr ) | with_reducible refine T_cons ?_ | ( ( with_reducible show T _ _ _ _ _ ( exec _ _ ) _ _ ) ; t_exec ) | ( ( with_reducible show T _ _ _ _ _ ( isTrue _ _ _ ) _ _ ) ; t_test ) | with_reducible refine T_nil ?_ | with_reducible refine T_args0 ?_ | with_reducible refine T_args1 ?_ | ( ( with_reducible show T _ _ _ _ _ ( callWith _ _ _ _ _ ) _ _ ) ; t_cw ) | ( ( with_reducible show T _ _ _ _ _ ( getMethod _ _ _ ) _ _ ) ; t_gm ) | ( ( with_reducible show T _ _ _ _ _ ( truthy _ ) _ _ ) ; t_tr ) | ( ( with_reducible show T _ _ _ _ _ ( compareOp _ _ _ ) _ _ ) ; t_cmp ) | ( ( with_reducible show T _ _ _ _ _ ( getAttr _ _ _ ) _ _ ) ; t_getA ) | ( ( with_reducible show T _ _ _ _ _ ( setAttr _ _ _ ) _ _ ) ; t_setA ) | ( ( with_reducible show T _ _ _ _ _ ( storeName _ _ _ ) _ _ ) ; t_st ) | ( ( with_reducible show T _ _ _ _ _ ( call _ _ _ ) _ _ ) ; t_call ) | ( ( with_reducible show T _ _ _ _ _ ( assign ( Expr.Name _ _ ) _ _ ) _ _ ) ; with_reducible refine T_assignN ?_ ) | ( ( with_reducible show T _ _ _ _ _ ( tests List.nil _ ) _ _ ) ; refine T_tests0 ?_ ) | ( ( with_reducible show T _ _ _ _ _ ( tests ( List.cons _ _ ) _ ) _ _ ) ; refine T_tests1 ?_ ) | ( ( with_reducible show ite _ _ _ ) ; first | refine ifF rfl ?_ | refine ifT rfl ?_ ) | ( ( with_reducible show ( And ( LE.le ( List.length _ ) 1000 ) _ ) ) ; refine And.intro ( by r_len ) ?_ ) | ( ( with_reducible show ( And ( Membership.mem _ ( Prod.mk _ ( PO.raw ( bndO _ _ ) ) ) ) _ ) ) ; refine And.intro ( by r_mem ) ?_ ) | with_reducible intro )"),
("t_go", "repeat ( first | t_ev | ( dsimp ] ; t_ev ) | ( dsimp List.cons_append List.nil_append List.map_cons List.map_nil er ] ; t_ev ) )"),
("t_lc", "first | ( ( with_reducible refine' T_LC _ ? lc1 ? lc2 ? lc3 ?_ ? lc5 ) ; ( case lc1 exact rfl ) ; ( case lc2 exact rfl ) ; ( case lc3 decide ) ; ( case lc5 intro ; rfl ) ) | ( ( with_reducible refine' T_LCu _ ? lc0 ? lc1 ? lc2 ? lc3 ?_ ? lc5 ) ; ( case lc0 exact rfl ) ; ( case lc1 exact rfl ) ; ( case lc2 exact rfl ) ; ( case lc3 decide ) ; ( case lc5 intro ; rfl ) )"),
("t_dc", "first | ( ( with_reducible refine' T_DCu _ ? lc0 ? lc1 ? lc2 ? lc3 ?_ ? lc5 ) ; ( case lc0 exact rfl ) ; ( case lc1 exact rfl ) ; ( case lc2 exact rfl ) ; ( case lc3 decide ) ; ( case lc5 intro ; rfl ) )"),
("t_setN", "( refine' T_setC ? m1 ? m3 ? m2 ? m7 ?_ ; ( case m1 r_mem ) ; ( case m2 r_cls ) ; ( case m3 r_ur ) ; ( case m7 r_le ) )"),
("t_sev", "first | t_ev | with_reducible refine T_slc ?_ | with_reducible refine T_part0 ?_ | with_reducible refine T_part1 ?_"),
("t_run", "repeat ( first | t_sev | ( dsimp ] ; t_sev ) | ( dsimp List.cons_append List.nil_append List.map_cons List.map_nil er ] ; t_sev ) )"),
("t_lcg", "( ( refine' T_LCuG _ ? lc0 ? lc1 ? lc2 ? lc3 ?_ ? lc5 ) ; ( case lc0 exact rfl ) ; ( case lc1 exact rfl ) ; ( case lc2 exact rfl ) ; ( case lc3 decide ) ; ( case lc5 intro ; rfl ) )")]
open Lean in
local macro_rules | `(tactic| wtm_at $s:str) => do
  match mkTab.lookup s.getString with
  | some t =>
    let v := extractMacroScopes (← Macro.addMacroScope `h)
    return mkK "paren" #[mkAt "(", (mkP (fun n => { v with name := n }.review) 4000 0 #[] (t.splitOn " ")).1, mkAt ")"]
  | none => Macro.throwUnsupported
noncomputable def stAt (p:List Nat):Option Stmt:=match p with
  | [i]=>Challenge.pw_rs0229_01.main.body[i]?
  | [i,j]=>(match Challenge.pw_rs0229_01.main.body[i]? with | some (.ClassDef _ _ _ b _ _ _ _ _ _ _)=>b[j]? | _=>none)
  | _=>none
noncomputable def grab {α β:Type} {x y:β} (_:x = y) (a:α):α:=a
noncomputable def heapK (P:Params):Frag:=by
  refine grab (x:=stAt [3,0]) (y:=some (.FunctionDef ?n52 ?A52 ?B52 ?d52 ?r52 ?t52 ?S52 ?u52 ?v52 ?p52)) ?h52 ?_
  case h52=>with_unfolding_all rfl
  refine grab (x:=stAt [3,2]) (y:=some (.FunctionDef ?n66 ?A66 ?B66 ?d66 ?r66 ?t66 ?S66 ?u66 ?v66 ?p66)) ?h66 ?_
  case h66=>with_unfolding_all rfl
  refine grab (x:=stAt [3,3]) (y:=some (.FunctionDef ?n73 ?A73 ?B73 ?d73 ?r73 ?t73 ?S73 ?u73 ?v73 ?p73)) ?h73 ?_
  case h73=>with_unfolding_all rfl
  refine grab (x:=stAt [4]) (y:=some (.FunctionDef ?n87 ?A87 ?B87 ?d87 ?r87 ?t87 ?S87 ?u87 ?v87 ?p87)) ?h87 ?_
  case h87=>with_unfolding_all rfl
  refine grab (x:=stAt [10,0]) (y:=some (.FunctionDef ?n116 ?A116 ?B116 ?d116 ?r116 ?t116 ?S116 ?u116 ?v116 ?p116)) ?h116 ?_
  case h116=>with_unfolding_all rfl
  refine grab (x:=stAt [10,1]) (y:=some (.FunctionDef ?n124 ?A124 ?B124 ?d124 ?r124 ?t124 ?S124 ?u124 ?v124 ?p124)) ?h124 ?_
  case h124=>with_unfolding_all rfl
  refine grab (x:=stAt [10,3]) (y:=some (.FunctionDef ?n139 ?A139 ?B139 ?d139 ?r139 ?t139 ?S139 ?u139 ?v139 ?p139)) ?h139 ?_
  case h139=>with_unfolding_all rfl
  refine grab (x:=stAt [10,7]) (y:=some (.FunctionDef ?n169 ?A169 ?B169 ?d169 ?r169 ?t169 ?S169 ?u169 ?v169 ?p169)) ?h169 ?_
  case h169=>with_unfolding_all rfl
  refine grab (x:=stAt [10,8]) (y:=some (.FunctionDef ?n175 ?A175 ?B175 ?d175 ?r175 ?t175 ?S175 ?u175 ?v175 ?p175)) ?h175 ?_
  case h175=>with_unfolding_all rfl
  refine grab (x:=stAt [10,9]) (y:=some (.FunctionDef ?n182 ?A182 ?B182 ?d182 ?r182 ?t182 ?S182 ?u182 ?v182 ?p182)) ?h182 ?_
  case h182=>with_unfolding_all rfl
  refine grab (x:=stAt [12]) (y:=some (.FunctionDef ?n217 ?A217 ?B217 ?d217 ?r217 ?t217 ?S217 ?u217 ?v217 ?p217)) ?h217 ?_
  case h217=>with_unfolding_all rfl
  refine grab (x:=stAt [14]) (y:=some (.FunctionDef ?n224 ?A224 ?B224 ?d224 ?r224 ?t224 ?S224 ?u224 ?v224 ?p224)) ?h224 ?_
  case h224=>with_unfolding_all rfl
  refine grab (x:=stAt [15]) (y:=some (.FunctionDef ?n229 ?A229 ?B229 ?d229 ?r229 ?t229 ?S229 ?u229 ?v229 ?p229)) ?h229 ?_
  case h229=>with_unfolding_all rfl
  refine grab (x:=stAt [16]) (y:=some (.FunctionDef ?n236 ?A236 ?B236 ?d236 ?r236 ?t236 ?S236 ?u236 ?v236 ?p236)) ?h236 ?_
  case h236=>with_unfolding_all rfl
  refine grab (x:=stAt [17]) (y:=some (.FunctionDef ?n241 ?A241 ?B241 ?d241 ?r241 ?t241 ?S241 ?u241 ?v241 ?p241)) ?h241 ?_
  case h241=>with_unfolding_all rfl
  refine grab (x:=stAt [18]) (y:=some (.FunctionDef ?n246 ?A246 ?B246 ?d246 ?r246 ?t246 ?S246 ?u246 ?v246 ?p246)) ?h246 ?_
  case h246=>with_unfolding_all rfl
  exact [
    (3,{ cls:=Value.type "dict", data:=Data.dict #[{ hash:=PyData.keyHash P (Str.ofString "__name__"),key:=Value.str (Str.ofString "__name__") 165,val:=Value.str (Str.ofString "law_rs0229_01") 612 },{ hash:=PyData.keyHash P (Str.ofString "__doc__"),key:=Value.str (Str.ofString "__doc__") 166,val:=Value.none },{ hash:=PyData.keyHash P (Str.ofString "__package__"),key:=Value.str (Str.ofString "__package__") 167,val:=Value.none },{ hash:=PyData.keyHash P (Str.ofString "__loader__"),key:=Value.str (Str.ofString "__loader__") 168,val:=Value.builtin "__main__.__loader__#opaque" },{ hash:=PyData.keyHash P (Str.ofString "__spec__"),key:=Value.str (Str.ofString "__spec__") 169,val:=Value.none },{ hash:=PyData.keyHash P (Str.ofString "__annotations__"),key:=Value.str (Str.ofString "__annotations__") 170,val:=Value.ref 6 },{ hash:=PyData.keyHash P (Str.ofString "__builtins__"),key:=Value.str (Str.ofString "__builtins__") 171,val:=Value.ref 4 },{ hash:=PyData.keyHash P (Str.ofString "__file__"),key:=Value.str (Str.ofString "__file__") 173,val:=Value.str (Str.ofString "/claim/cut.py") 172 },{ hash:=PyData.keyHash P (Str.ofString "__cached__"),key:=Value.str (Str.ofString "__cached__") 174,val:=Value.none },{ hash:=PyData.keyHash P (Str.ofString "_sre"),key:=Value.str (Str.ofString "_sre") 275,val:=Value.ref 12 },{ hash:=PyData.keyHash P (Str.ofString "_wall"),key:=Value.str (Str.ofString "_wall") 288,val:=Value.ref 38 },{ hash:=PyData.keyHash P (Str.ofString "Entry"),key:=Value.str (Str.ofString "Entry") 352,val:=Value.ref 76 },{ hash:=PyData.keyHash P (Str.ofString "merge_entries"),key:=Value.str (Str.ofString "merge_entries") 361,val:=Value.ref 87 },{ hash:=PyData.keyHash P (Str.ofString "_twin_re_1"),key:=Value.str (Str.ofString "_twin_re_1") 401,val:=Value.ref 92 },{ hash:=PyData.keyHash P (Str.ofString "_namespace_map"),key:=Value.str (Str.ofString "_namespace_map") 423,val:=Value.ref 93 },{ hash:=PyData.keyHash P (Str.ofString "_raise_serialization_error"),key:=Value.str (Str.ofString "_raise_serialization_error") 430,val:=Value.ref 100 },{ hash:=PyData.keyHash P (Str.ofString "_looks_like_prefix_name"),key:=Value.str (Str.ofString "_looks_like_prefix_name") 432,val:=Value.ref 101 },{ hash:=PyData.keyHash P (Str.ofString "C14NWriterTarget"),key:=Value.str (Str.ofString "C14NWriterTarget") 597,val:=Value.ref 199 },{ hash:=PyData.keyHash P (Str.ofString "_escape_cdata_c14n"),key:=Value.str (Str.ofString "_escape_cdata_c14n") 604,val:=Value.ref 210 },{ hash:=PyData.keyHash P (Str.ofString "_escape_attrib_c14n"),key:=Value.str (Str.ofString "_escape_attrib_c14n") 611,val:=Value.ref 217 },{ hash:=PyData.keyHash P (Str.ofString "_law_rule"),key:=Value.str (Str.ofString "_law_rule") 624,val:=Value.ref 224 },{ hash:=PyData.keyHash P (Str.ofString "_law_spelled"),key:=Value.str (Str.ofString "_law_spelled") 630,val:=Value.ref 229 },{ hash:=PyData.keyHash P (Str.ofString "_law_numbers_and_places"),key:=Value.str (Str.ofString "_law_numbers_and_places") 644,val:=Value.ref 236 },{ hash:=PyData.keyHash P (Str.ofString "_law_whole"),key:=Value.str (Str.ofString "_law_whole") 650,val:=Value.ref 241 },{ hash:=PyData.keyHash P (Str.ofString "law"),key:=Value.str (Str.ofString "law") 656,val:=Value.ref 246 }] 25 }),
    (37,{ cls:=Value.type "code", data:=Data.fields #[Value.str (Str.ofString "_wall") 282,Value.str (Str.ofString "_wall") 283,Value.str (Str.ofString "/claim/cut.py") 284,Value.int 2 0,Value.int 1 0,Value.int 0 0,Value.int 0 0,Value.int 3 0,Value.ref 32,Value.bool true,Value.int 276 0,Value.ref 33,Value.none,Value.ref 34,Value.ref 35,Value.ref 36,Value.int 286 0,Value.int 2 0,Value.str (Str.ofString "/claim/cut.py") 287] }),
    (51,{ cls:=Value.type "code", data:=Data.fields #[Value.str (Str.ofString "__init__") 303,Value.str (Str.ofString "Entry.__init__") 304,Value.str (Str.ofString "/claim/cut.py") 305,Value.int 8 0,Value.int 1 0,Value.int 0 0,Value.int 0 0,Value.int 3 0,Value.ref 46,Value.bool true,Value.int 276 0,Value.ref 47,Value.none,Value.ref 48,Value.ref 49,Value.ref 50,Value.int 307 0,Value.int 8 0,Value.str (Str.ofString "/claim/cut.py") 308] }),
    (52,{ cls:=Value.type "function", data:=Data.func { name:=Str.ofString "__init__", qualname:=Str.ofString "Entry.__init__", params:=?A52,body:=.stmts ?B52,scope:=?S52,globals:=3,closure:=[],defaults:=Value.none,kwdefaults:=Value.none,pyModule:=Value.str (Str.ofString "cpy313.urllib.robotparser") 289,code:=Value.ref 51 } }),
    (58,{ cls:=Value.type "code", data:=Data.fields #[Value.str (Str.ofString "__str__") 310,Value.str (Str.ofString "Entry.__str__") 311,Value.str (Str.ofString "/claim/cut.py") 312,Value.int 14 0,Value.int 1 0,Value.int 0 0,Value.int 0 0,Value.int 3 0,Value.ref 53,Value.bool true,Value.int 276 0,Value.ref 54,Value.none,Value.ref 55,Value.ref 56,Value.ref 57,Value.int 317 0,Value.int 14 0,Value.str (Str.ofString "/claim/cut.py") 318] }),
    (65,{ cls:=Value.type "code", data:=Data.fields #[Value.str (Str.ofString "applies_to") 320,Value.str (Str.ofString "Entry.applies_to") 321,Value.str (Str.ofString "/claim/cut.py") 322,Value.int 31 0,Value.int 2 0,Value.int 0 0,Value.int 0 0,Value.int 3 0,Value.ref 60,Value.bool true,Value.int 276 0,Value.ref 61,Value.none,Value.ref 62,Value.ref 63,Value.ref 64,Value.int 326 0,Value.int 31 0,Value.str (Str.ofString "/claim/cut.py") 327] }),
    (66,{ cls:=Value.type "function", data:=Data.func { name:=Str.ofString "applies_to", qualname:=Str.ofString "Entry.applies_to", params:=?A66,body:=.stmts ?B66,scope:=?S66,globals:=3,closure:=[],defaults:=Value.none,kwdefaults:=Value.none,pyModule:=Value.str (Str.ofString "cpy313.urllib.robotparser") 289,code:=Value.ref 65 } }),
    (72,{ cls:=Value.type "code", data:=Data.fields #[Value.str (Str.ofString "allowance") 329,Value.str (Str.ofString "Entry.allowance") 330,Value.str (Str.ofString "/claim/cut.py") 331,Value.int 42 0,Value.int 2 0,Value.int 0 0,Value.int 0 0,Value.int 3 0,Value.ref 67,Value.bool true,Value.int 276 0,Value.ref 68,Value.none,Value.ref 69,Value.ref 70,Value.ref 71,Value.int 338 0,Value.int 42 0,Value.str (Str.ofString "/claim/cut.py") 339] }),
    (73,{ cls:=Value.type "function", data:=Data.func { name:=Str.ofString "allowance", qualname:=Str.ofString "Entry.allowance", params:=?A73,body:=.stmts ?B73,scope:=?S73,globals:=3,closure:=[],defaults:=Value.none,kwdefaults:=Value.none,pyModule:=Value.str (Str.ofString "cpy313.urllib.robotparser") 289,code:=Value.ref 72 } }),
    (74,{ cls:=Value.type "tuple", data:=Data.seq #[Value.str (Str.ofString "delay") 341,Value.str (Str.ofString "req_rate") 342,Value.str (Str.ofString "rulelines") 343,Value.str (Str.ofString "useragents") 344] }),
    (75,{ cls:=Value.type "dict", data:=Data.dict #[{ hash:=PyData.keyHash P (Str.ofString "__module__"),key:=Value.str (Str.ofString "__module__") 298,val:=Value.str (Str.ofString "cpy313.urllib.robotparser") 289 },{ hash:=PyData.keyHash P (Str.ofString "__firstlineno__"),key:=Value.str (Str.ofString "__firstlineno__") 302,val:=Value.int 6 301 },{ hash:=PyData.keyHash P (Str.ofString "__init__"),key:=Value.str (Str.ofString "__init__") 309,val:=Value.ref 52 },{ hash:=PyData.keyHash P (Str.ofString "__str__"),key:=Value.str (Str.ofString "__str__") 319,val:=Value.ref 59 },{ hash:=PyData.keyHash P (Str.ofString "applies_to"),key:=Value.str (Str.ofString "applies_to") 328,val:=Value.ref 66 },{ hash:=PyData.keyHash P (Str.ofString "allowance"),key:=Value.str (Str.ofString "allowance") 340,val:=Value.ref 73 },{ hash:=PyData.keyHash P (Str.ofString "__static_attributes__"),key:=Value.str (Str.ofString "__static_attributes__") 345,val:=Value.ref 74 },{ hash:=PyData.keyHash P (Str.ofString "__dict__"),key:=Value.str (Str.ofString "__dict__") 347,val:=Value.ref 77 },{ hash:=PyData.keyHash P (Str.ofString "__weakref__"),key:=Value.str (Str.ofString "__weakref__") 349,val:=Value.ref 78 },{ hash:=PyData.keyHash P (Str.ofString "__doc__"),key:=Value.str (Str.ofString "__doc__") 350,val:=Value.none }] 4 }),
    (76,{ cls:=Value.type "type", data:=Data.cls { name:=Str.ofString "Entry", bases:=[Value.type "object"],mro:=[Value.ref 76,Value.type "object"],ns:=75,qualname:=Str.ofString "Entry" },slots:=#[none,none,some (Value.str (Str.ofString "Entry") 291),some (Value.str (Str.ofString "Entry") 299),some (Value.builtin "object.__new__"),some (Value.bool true)] }),
    (77,{ cls:=Value.type "getset_descriptor", data:=Data.fields #[Value.str (Str.ofString "__dict__") 346,Value.ref 76,Value.builtin "function.__dict__", Value.builtin "function.__dict__#set"] }),
    (78,{ cls:=Value.type "getset_descriptor", data:=Data.fields #[Value.str (Str.ofString "__weakref__") 348,Value.ref 76,Value.builtin "ExceptionGroup.__weakref__", Value.none] }),
    (86,{ cls:=Value.type "code", data:=Data.fields #[Value.str (Str.ofString "merge_entries") 353,Value.str (Str.ofString "merge_entries") 354,Value.str (Str.ofString "/claim/cut.py") 355,Value.int 54 0,Value.int 2 0,Value.int 0 0,Value.int 0 0,Value.int 3 0,Value.ref 81,Value.bool true,Value.int 276 0,Value.ref 82,Value.none,Value.ref 83,Value.ref 84,Value.ref 85,Value.int 359 0,Value.int 54 0,Value.str (Str.ofString "/claim/cut.py") 360] }),
    (87,{ cls:=Value.type "function", data:=Data.func { name:=Str.ofString "merge_entries", qualname:=Str.ofString "merge_entries", params:=?A87,body:=.stmts ?B87,scope:=?S87,globals:=3,closure:=[],defaults:=Value.none,kwdefaults:=Value.none,pyModule:=Value.str (Str.ofString "cpy313.urllib.robotparser") 289,code:=Value.ref 86 } }),
    (91,{ cls:=Value.type "tuple", data:=Data.seq #[Value.int 14 0,Value.int 4 0,Value.int 0 0,Value.int 3 0,Value.int 4294967295 0,Value.int 6 0,Value.int 0 0,Value.int 24 0,Value.int 9 0,Value.int 1 0,Value.int 4294967295 0,Value.int 13 0,Value.int 4 0,Value.int 8 0,Value.int 14 0,Value.int 0 0,Value.int 1 0,Value.int 16 0,Value.int 58 0,Value.int 24 0,Value.int 9 0,Value.int 1 0,Value.int 4294967295 0,Value.int 13 0,Value.int 4 0,Value.int 8 0,Value.int 14 0,Value.int 0 0,Value.int 1 0,Value.int 6 0,Value.int 5 0,Value.int 1 0] }),
    (92,{ cls:=Value.type "re.Pattern", data:=Data.fields #[Value.str (Str.ofString "^\\w+:\\w+$") 365,Value.int 32 400,Value.int 0 0,Value.none,Value.none,Value.ref 91,Value.int 0 0] }),
    (93,{ cls:=Value.type "dict", data:=Data.dict #[{ hash:=PyData.keyHash P (Str.ofString "http://www.w3.org/XML/1998/namespace"),key:=Value.str (Str.ofString "http://www.w3.org/XML/1998/namespace") 402,val:=Value.str (Str.ofString "xml") 403 },{ hash:=PyData.keyHash P (Str.ofString "http://www.w3.org/1999/xhtml"),key:=Value.str (Str.ofString "http://www.w3.org/1999/xhtml") 404,val:=Value.str (Str.ofString "html") 405 },{ hash:=PyData.keyHash P (Str.ofString "http://www.w3.org/1999/02/22-rdf-syntax-ns#"),key:=Value.str (Str.ofString "http://www.w3.org/1999/02/22-rdf-syntax-ns#") 406,val:=Value.str (Str.ofString "rdf") 407 },{ hash:=PyData.keyHash P (Str.ofString "http://schemas.xmlsoap.org/wsdl/"),key:=Value.str (Str.ofString "http://schemas.xmlsoap.org/wsdl/") 408,val:=Value.str (Str.ofString "wsdl") 409 },{ hash:=PyData.keyHash P (Str.ofString "http://www.w3.org/2001/XMLSchema"),key:=Value.str (Str.ofString "http://www.w3.org/2001/XMLSchema") 410,val:=Value.str (Str.ofString "xs") 411 },{ hash:=PyData.keyHash P (Str.ofString "http://www.w3.org/2001/XMLSchema-instance"),key:=Value.str (Str.ofString "http://www.w3.org/2001/XMLSchema-instance") 412,val:=Value.str (Str.ofString "xsi") 413 },{ hash:=PyData.keyHash P (Str.ofString "http://purl.org/dc/elements/1.1/"),key:=Value.str (Str.ofString "http://purl.org/dc/elements/1.1/") 414,val:=Value.str (Str.ofString "dc") 415 }] 7 }),
    (99,{ cls:=Value.type "code", data:=Data.fields #[Value.str (Str.ofString "_raise_serialization_error") 424,Value.str (Str.ofString "_raise_serialization_error") 425,Value.str (Str.ofString "/claim/cut.py") 426,Value.int 64 0,Value.int 1 0,Value.int 0 0,Value.int 0 0,Value.int 3 0,Value.ref 94,Value.bool true,Value.int 276 0,Value.ref 95,Value.none,Value.ref 96,Value.ref 97,Value.ref 98,Value.int 428 0,Value.int 64 0,Value.str (Str.ofString "/claim/cut.py") 429] }),
    (101,{ cls:=Value.type "builtin_function_or_method", data:=Data.fields #[Value.builtin "re.Pattern.match", Value.ref 92] }),
    (109,{ cls:=Value.type "dict", data:=Data.dict #[{ hash:=PyData.keyHash P (Str.ofString "with_comments"),key:=Value.str (Str.ofString "with_comments") 445,val:=Value.bool false },{ hash:=PyData.keyHash P (Str.ofString "strip_text"),key:=Value.str (Str.ofString "strip_text") 446,val:=Value.bool false },{ hash:=PyData.keyHash P (Str.ofString "rewrite_prefixes"),key:=Value.str (Str.ofString "rewrite_prefixes") 447,val:=Value.bool false },{ hash:=PyData.keyHash P (Str.ofString "qname_aware_tags"),key:=Value.str (Str.ofString "qname_aware_tags") 448,val:=Value.none },{ hash:=PyData.keyHash P (Str.ofString "qname_aware_attrs"),key:=Value.str (Str.ofString "qname_aware_attrs") 449,val:=Value.none },{ hash:=PyData.keyHash P (Str.ofString "exclude_attrs"),key:=Value.str (Str.ofString "exclude_attrs") 450,val:=Value.none },{ hash:=PyData.keyHash P (Str.ofString "exclude_tags"),key:=Value.str (Str.ofString "exclude_tags") 451,val:=Value.none }] 7 }),
    (115,{ cls:=Value.type "code", data:=Data.fields #[Value.str (Str.ofString "__init__") 452,Value.str (Str.ofString "C14NWriterTarget.__init__") 453,Value.str (Str.ofString "/claim/cut.py") 454,Value.int 69 0,Value.int 2 0,Value.int 0 0,Value.int 7 0,Value.int 3 0,Value.ref 110,Value.bool true,Value.int 276 0,Value.ref 111,Value.none,Value.ref 112,Value.ref 113,Value.ref 114,Value.int 464 0,Value.int 69 0,Value.str (Str.ofString "/claim/cut.py") 465] }),
    (116,{ cls:=Value.type "function", data:=Data.func { name:=Str.ofString "__init__", qualname:=Str.ofString "C14NWriterTarget.__init__", params:=?A116,body:=.stmts ?B116,scope:=?S116,globals:=3,closure:=[],defaults:=Value.none,kwdefaults:=Value.ref 109,pyModule:=Value.str (Str.ofString "cpy313.xml.etree.ElementTree") 362,code:=Value.ref 115 } }),
    (117,{ cls:=Value.type "tuple", data:=Data.seq #[Value.type "reversed"] }),
    (123,{ cls:=Value.type "code", data:=Data.fields #[Value.str (Str.ofString "_iter_namespaces") 467,Value.str (Str.ofString "C14NWriterTarget._iter_namespaces") 468,Value.str (Str.ofString "/claim/cut.py") 469,Value.int 97 0,Value.int 3 0,Value.int 0 0,Value.int 0 0,Value.int 35 0,Value.ref 118,Value.bool true,Value.int 276 0,Value.ref 119,Value.none,Value.ref 120,Value.ref 121,Value.ref 122,Value.int 474 0,Value.int 97 0,Value.str (Str.ofString "/claim/cut.py") 475] }),
    (124,{ cls:=Value.type "function", data:=Data.func { name:=Str.ofString "_iter_namespaces", qualname:=Str.ofString "C14NWriterTarget._iter_namespaces", params:=?A124,body:=.stmts ?B124,scope:=?S124,globals:=3,closure:=[],defaults:=Value.ref 117,kwdefaults:=Value.none,pyModule:=Value.str (Str.ofString "cpy313.xml.etree.ElementTree") 362,code:=Value.ref 123 } }),
    (130,{ cls:=Value.type "code", data:=Data.fields #[Value.str (Str.ofString "_resolve_prefix_name") 477,Value.str (Str.ofString "C14NWriterTarget._resolve_prefix_name") 478,Value.str (Str.ofString "/claim/cut.py") 479,Value.int 102 0,Value.int 2 0,Value.int 0 0,Value.int 0 0,Value.int 3 0,Value.ref 125,Value.bool true,Value.int 276 0,Value.ref 126,Value.none,Value.ref 127,Value.ref 128,Value.ref 129,Value.int 486 0,Value.int 102 0,Value.str (Str.ofString "/claim/cut.py") 487] }),
    (132,{ cls:=Value.type "tuple", data:=Data.seq #[Value.none] }),
    (138,{ cls:=Value.type "code", data:=Data.fields #[Value.str (Str.ofString "_qname") 489,Value.str (Str.ofString "C14NWriterTarget._qname") 490,Value.str (Str.ofString "/claim/cut.py") 491,Value.int 109 0,Value.int 3 0,Value.int 0 0,Value.int 0 0,Value.int 3 0,Value.ref 133,Value.bool true,Value.int 276 0,Value.ref 134,Value.none,Value.ref 135,Value.ref 136,Value.ref 137,Value.int 499 0,Value.int 109 0,Value.str (Str.ofString "/claim/cut.py") 500] }),
    (139,{ cls:=Value.type "function", data:=Data.func { name:=Str.ofString "_qname", qualname:=Str.ofString "C14NWriterTarget._qname", params:=?A139,body:=.stmts ?B139,scope:=?S139,globals:=3,closure:=[],defaults:=Value.ref 132,kwdefaults:=Value.none,pyModule:=Value.str (Str.ofString "cpy313.xml.etree.ElementTree") 362,code:=Value.ref 138 } }),
    (145,{ cls:=Value.type "code", data:=Data.fields #[Value.str (Str.ofString "data") 502,Value.str (Str.ofString "C14NWriterTarget.data") 503,Value.str (Str.ofString "/claim/cut.py") 504,Value.int 136 0,Value.int 2 0,Value.int 0 0,Value.int 0 0,Value.int 3 0,Value.ref 140,Value.bool true,Value.int 276 0,Value.ref 141,Value.none,Value.ref 142,Value.ref 143,Value.ref 144,Value.int 507 0,Value.int 136 0,Value.str (Str.ofString "/claim/cut.py") 508] }),
    (147,{ cls:=Value.type "builtin_function_or_method", data:=Data.fields #[Value.builtin "str.join", Value.str (Str.ofString "") 510] }),
    (154,{ cls:=Value.type "code", data:=Data.fields #[Value.str (Str.ofString "_flush") 512,Value.str (Str.ofString "C14NWriterTarget._flush") 513,Value.str (Str.ofString "/claim/cut.py") 514,Value.int 140 0,Value.int 2 0,Value.int 0 0,Value.int 0 0,Value.int 3 0,Value.ref 149,Value.bool true,Value.int 276 0,Value.ref 150,Value.none,Value.ref 151,Value.ref 152,Value.ref 153,Value.int 520 0,Value.int 140 0,Value.str (Str.ofString "/claim/cut.py") 521] }),
    (161,{ cls:=Value.type "code", data:=Data.fields #[Value.str (Str.ofString "start_ns") 523,Value.str (Str.ofString "C14NWriterTarget.start_ns") 524,Value.str (Str.ofString "/claim/cut.py") 525,Value.int 154 0,Value.int 3 0,Value.int 0 0,Value.int 0 0,Value.int 3 0,Value.ref 156,Value.bool true,Value.int 276 0,Value.ref 157,Value.none,Value.ref 158,Value.ref 159,Value.ref 160,Value.int 529 0,Value.int 154 0,Value.str (Str.ofString "/claim/cut.py") 530] }),
    (168,{ cls:=Value.type "code", data:=Data.fields #[Value.str (Str.ofString "start") 532,Value.str (Str.ofString "C14NWriterTarget.start") 533,Value.str (Str.ofString "/claim/cut.py") 534,Value.int 157 0,Value.int 3 0,Value.int 0 0,Value.int 0 0,Value.int 3 0,Value.ref 163,Value.bool true,Value.int 276 0,Value.ref 164,Value.none,Value.ref 165,Value.ref 166,Value.ref 167,Value.int 539 0,Value.int 157 0,Value.str (Str.ofString "/claim/cut.py") 540] }),
    (169,{ cls:=Value.type "function", data:=Data.func { name:=Str.ofString "start", qualname:=Str.ofString "C14NWriterTarget.start", params:=?A169,body:=.stmts ?B169,scope:=?S169,globals:=3,closure:=[],defaults:=Value.none,kwdefaults:=Value.none,pyModule:=Value.str (Str.ofString "cpy313.xml.etree.ElementTree") 362,code:=Value.ref 168 } }),
    (170,{ cls:=Value.type "tuple", data:=Data.seq #[Value.none] }),
    (174,{ cls:=Value.type "code", data:=Data.fields #[Value.str (Str.ofString "_start") 542,Value.str (Str.ofString "C14NWriterTarget._start") 543,Value.str (Str.ofString "/claim/cut.py") 544,Value.int 170 0,Value.int 5 0,Value.int 0 0,Value.int 0 0,Value.int 3 0,Value.ref 171,Value.bool true,Value.int 276 0,Value.ref 172,Value.none,Value.none,Value.none,Value.ref 173,Value.int 545 0,Value.int 170 0,Value.str (Str.ofString "/claim/cut.py") 546] }),
    (175,{ cls:=Value.type "function", data:=Data.func { name:=Str.ofString "_start", qualname:=Str.ofString "C14NWriterTarget._start", params:=?A175,body:=.stmts ?B175,scope:=?S175,globals:=3,closure:=[],defaults:=Value.ref 170,kwdefaults:=Value.none,pyModule:=Value.str (Str.ofString "cpy313.xml.etree.ElementTree") 362,code:=Value.ref 174 } }),
    (181,{ cls:=Value.type "code", data:=Data.fields #[Value.str (Str.ofString "end") 548,Value.str (Str.ofString "C14NWriterTarget.end") 549,Value.str (Str.ofString "/claim/cut.py") 550,Value.int 215 0,Value.int 2 0,Value.int 0 0,Value.int 0 0,Value.int 3 0,Value.ref 176,Value.bool true,Value.int 276 0,Value.ref 177,Value.none,Value.ref 178,Value.ref 179,Value.ref 180,Value.int 553 0,Value.int 215 0,Value.str (Str.ofString "/claim/cut.py") 554] }),
    (182,{ cls:=Value.type "function", data:=Data.func { name:=Str.ofString "end", qualname:=Str.ofString "C14NWriterTarget.end", params:=?A182,body:=.stmts ?B182,scope:=?S182,globals:=3,closure:=[],defaults:=Value.none,kwdefaults:=Value.none,pyModule:=Value.str (Str.ofString "cpy313.xml.etree.ElementTree") 362,code:=Value.ref 181 } }),
    (188,{ cls:=Value.type "code", data:=Data.fields #[Value.str (Str.ofString "comment") 556,Value.str (Str.ofString "C14NWriterTarget.comment") 557,Value.str (Str.ofString "/claim/cut.py") 558,Value.int 227 0,Value.int 2 0,Value.int 0 0,Value.int 0 0,Value.int 3 0,Value.ref 183,Value.bool true,Value.int 276 0,Value.ref 184,Value.none,Value.ref 185,Value.ref 186,Value.ref 187,Value.int 561 0,Value.int 227 0,Value.str (Str.ofString "/claim/cut.py") 562] }),
    (195,{ cls:=Value.type "code", data:=Data.fields #[Value.str (Str.ofString "pi") 564,Value.str (Str.ofString "C14NWriterTarget.pi") 565,Value.str (Str.ofString "/claim/cut.py") 566,Value.int 230 0,Value.int 3 0,Value.int 0 0,Value.int 0 0,Value.int 3 0,Value.ref 190,Value.bool true,Value.int 276 0,Value.ref 191,Value.none,Value.ref 192,Value.ref 193,Value.ref 194,Value.int 570 0,Value.int 230 0,Value.str (Str.ofString "/claim/cut.py") 571] }),
    (197,{ cls:=Value.type "tuple", data:=Data.seq #[Value.str (Str.ofString "_data") 573,Value.str (Str.ofString "_declared_ns_stack") 574,Value.str (Str.ofString "_exclude_attrs") 575,Value.str (Str.ofString "_exclude_tags") 576,Value.str (Str.ofString "_find_qname_aware_attrs") 577,Value.str (Str.ofString "_ignored_depth") 578,Value.str (Str.ofString "_ns_stack") 579,Value.str (Str.ofString "_pending_start") 580,Value.str (Str.ofString "_prefix_map") 581,Value.str (Str.ofString "_preserve_space") 582,Value.str (Str.ofString "_qname_aware_tags") 583,Value.str (Str.ofString "_rewrite_prefixes") 584,Value.str (Str.ofString "_root_done") 585,Value.str (Str.ofString "_root_seen") 586,Value.str (Str.ofString "_strip_text") 587,Value.str (Str.ofString "_with_comments") 588,Value.str (Str.ofString "_write") 589] }),
    (198,{ cls:=Value.type "dict", data:=Data.dict #[{ hash:=PyData.keyHash P (Str.ofString "__module__"),key:=Value.str (Str.ofString "__module__") 440,val:=Value.str (Str.ofString "cpy313.xml.etree.ElementTree") 362 },{ hash:=PyData.keyHash P (Str.ofString "__firstlineno__"),key:=Value.str (Str.ofString "__firstlineno__") 444,val:=Value.int 67 443 },{ hash:=PyData.keyHash P (Str.ofString "__init__"),key:=Value.str (Str.ofString "__init__") 466,val:=Value.ref 116 },{ hash:=PyData.keyHash P (Str.ofString "_iter_namespaces"),key:=Value.str (Str.ofString "_iter_namespaces") 476,val:=Value.ref 124 },{ hash:=PyData.keyHash P (Str.ofString "_resolve_prefix_name"),key:=Value.str (Str.ofString "_resolve_prefix_name") 488,val:=Value.ref 131 },{ hash:=PyData.keyHash P (Str.ofString "_qname"),key:=Value.str (Str.ofString "_qname") 501,val:=Value.ref 139 },{ hash:=PyData.keyHash P (Str.ofString "data"),key:=Value.str (Str.ofString "data") 509,val:=Value.ref 146 },{ hash:=PyData.keyHash P (Str.ofString "_flush"),key:=Value.str (Str.ofString "_flush") 522,val:=Value.ref 155 },{ hash:=PyData.keyHash P (Str.ofString "start_ns"),key:=Value.str (Str.ofString "start_ns") 531,val:=Value.ref 162 },{ hash:=PyData.keyHash P (Str.ofString "start"),key:=Value.str (Str.ofString "start") 541,val:=Value.ref 169 },{ hash:=PyData.keyHash P (Str.ofString "_start"),key:=Value.str (Str.ofString "_start") 547,val:=Value.ref 175 },{ hash:=PyData.keyHash P (Str.ofString "end"),key:=Value.str (Str.ofString "end") 555,val:=Value.ref 182 },{ hash:=PyData.keyHash P (Str.ofString "comment"),key:=Value.str (Str.ofString "comment") 563,val:=Value.ref 189 },{ hash:=PyData.keyHash P (Str.ofString "pi"),key:=Value.str (Str.ofString "pi") 572,val:=Value.ref 196 },{ hash:=PyData.keyHash P (Str.ofString "__static_attributes__"),key:=Value.str (Str.ofString "__static_attributes__") 590,val:=Value.ref 197 },{ hash:=PyData.keyHash P (Str.ofString "__dict__"),key:=Value.str (Str.ofString "__dict__") 592,val:=Value.ref 200 },{ hash:=PyData.keyHash P (Str.ofString "__weakref__"),key:=Value.str (Str.ofString "__weakref__") 594,val:=Value.ref 201 },{ hash:=PyData.keyHash P (Str.ofString "__doc__"),key:=Value.str (Str.ofString "__doc__") 595,val:=Value.none }] 4 }),
    (199,{ cls:=Value.type "type", data:=Data.cls { name:=Str.ofString "C14NWriterTarget", bases:=[Value.type "object"],mro:=[Value.ref 199,Value.type "object"],ns:=198,qualname:=Str.ofString "C14NWriterTarget" },slots:=#[none,none,some (Value.str (Str.ofString "C14NWriterTarget") 433),some (Value.str (Str.ofString "C14NWriterTarget") 441),some (Value.builtin "object.__new__"),some (Value.bool true)] }),
    (200,{ cls:=Value.type "getset_descriptor", data:=Data.fields #[Value.str (Str.ofString "__dict__") 591,Value.ref 199,Value.builtin "function.__dict__", Value.builtin "function.__dict__#set"] }),
    (201,{ cls:=Value.type "getset_descriptor", data:=Data.fields #[Value.str (Str.ofString "__weakref__") 593,Value.ref 199,Value.builtin "ExceptionGroup.__weakref__", Value.none] }),
    (209,{ cls:=Value.type "code", data:=Data.fields #[Value.str (Str.ofString "_escape_cdata_c14n") 598,Value.str (Str.ofString "_escape_cdata_c14n") 599,Value.str (Str.ofString "/claim/cut.py") 600,Value.int 232 0,Value.int 1 0,Value.int 0 0,Value.int 0 0,Value.int 3 0,Value.ref 204,Value.bool true,Value.int 276 0,Value.ref 205,Value.none,Value.ref 206,Value.ref 207,Value.ref 208,Value.int 602 0,Value.int 232 0,Value.str (Str.ofString "/claim/cut.py") 603] }),
    (216,{ cls:=Value.type "code", data:=Data.fields #[Value.str (Str.ofString "_escape_attrib_c14n") 605,Value.str (Str.ofString "_escape_attrib_c14n") 606,Value.str (Str.ofString "/claim/cut.py") 607,Value.int 245 0,Value.int 1 0,Value.int 0 0,Value.int 0 0,Value.int 3 0,Value.ref 211,Value.bool true,Value.int 276 0,Value.ref 212,Value.none,Value.ref 213,Value.ref 214,Value.ref 215,Value.int 609 0,Value.int 245 0,Value.str (Str.ofString "/claim/cut.py") 610] }),
    (217,{ cls:=Value.type "function", data:=Data.func { name:=Str.ofString "_escape_attrib_c14n", qualname:=Str.ofString "_escape_attrib_c14n", params:=?A217,body:=.stmts ?B217,scope:=?S217,globals:=3,closure:=[],defaults:=Value.none,kwdefaults:=Value.none,pyModule:=Value.str (Str.ofString "cpy313.xml.etree.ElementTree") 362,code:=Value.ref 216 } }),
    (223,{ cls:=Value.type "code", data:=Data.fields #[Value.str (Str.ofString "_law_rule") 614,Value.str (Str.ofString "_law_rule") 615,Value.str (Str.ofString "/claim/cut.py") 616,Value.int 263 0,Value.int 3 0,Value.int 0 0,Value.int 0 0,Value.int 3 0,Value.ref 218,Value.bool true,Value.int 276 0,Value.ref 219,Value.none,Value.ref 220,Value.ref 221,Value.ref 222,Value.int 622 0,Value.int 263 0,Value.str (Str.ofString "/claim/cut.py") 623] }),
    (224,{ cls:=Value.type "function", data:=Data.func { name:=Str.ofString "_law_rule", qualname:=Str.ofString "_law_rule", params:=?A224,body:=.stmts ?B224,scope:=?S224,globals:=3,closure:=[],defaults:=Value.none,kwdefaults:=Value.none,pyModule:=Value.str (Str.ofString "law_rs0229_01") 612,code:=Value.ref 223 } }),
    (228,{ cls:=Value.type "code", data:=Data.fields #[Value.str (Str.ofString "_law_spelled") 625,Value.str (Str.ofString "_law_spelled") 626,Value.str (Str.ofString "/claim/cut.py") 627,Value.int 269 0,Value.int 1 0,Value.int 0 0,Value.int 0 0,Value.int 3 0,Value.ref 225,Value.bool true,Value.int 276 0,Value.ref 226,Value.none,Value.none,Value.none,Value.ref 227,Value.int 628 0,Value.int 269 0,Value.str (Str.ofString "/claim/cut.py") 629] }),
    (229,{ cls:=Value.type "function", data:=Data.func { name:=Str.ofString "_law_spelled", qualname:=Str.ofString "_law_spelled", params:=?A229,body:=.stmts ?B229,scope:=?S229,globals:=3,closure:=[],defaults:=Value.none,kwdefaults:=Value.none,pyModule:=Value.str (Str.ofString "law_rs0229_01") 612,code:=Value.ref 228 } }),
    (235,{ cls:=Value.type "code", data:=Data.fields #[Value.str (Str.ofString "_law_numbers_and_places") 631,Value.str (Str.ofString "_law_numbers_and_places") 632,Value.str (Str.ofString "/claim/cut.py") 633,Value.int 271 0,Value.int 1 0,Value.int 0 0,Value.int 0 0,Value.int 3 0,Value.ref 230,Value.bool true,Value.int 276 0,Value.ref 231,Value.none,Value.ref 232,Value.ref 233,Value.ref 234,Value.int 642 0,Value.int 271 0,Value.str (Str.ofString "/claim/cut.py") 643] }),
    (236,{ cls:=Value.type "function", data:=Data.func { name:=Str.ofString "_law_numbers_and_places", qualname:=Str.ofString "_law_numbers_and_places", params:=?A236,body:=.stmts ?B236,scope:=?S236,globals:=3,closure:=[],defaults:=Value.none,kwdefaults:=Value.none,pyModule:=Value.str (Str.ofString "law_rs0229_01") 612,code:=Value.ref 235 } }),
    (240,{ cls:=Value.type "code", data:=Data.fields #[Value.str (Str.ofString "_law_whole") 645,Value.str (Str.ofString "_law_whole") 646,Value.str (Str.ofString "/claim/cut.py") 647,Value.int 281 0,Value.int 2 0,Value.int 0 0,Value.int 0 0,Value.int 3 0,Value.ref 237,Value.bool true,Value.int 276 0,Value.ref 238,Value.none,Value.none,Value.none,Value.ref 239,Value.int 648 0,Value.int 281 0,Value.str (Str.ofString "/claim/cut.py") 649] }),
    (241,{ cls:=Value.type "function", data:=Data.func { name:=Str.ofString "_law_whole", qualname:=Str.ofString "_law_whole", params:=?A241,body:=.stmts ?B241,scope:=?S241,globals:=3,closure:=[],defaults:=Value.none,kwdefaults:=Value.none,pyModule:=Value.str (Str.ofString "law_rs0229_01") 612,code:=Value.ref 240 } }),
    (245,{ cls:=Value.type "code", data:=Data.fields #[Value.str (Str.ofString "law") 651,Value.str (Str.ofString "law") 652,Value.str (Str.ofString "/claim/cut.py") 653,Value.int 286 0,Value.int 1 0,Value.int 0 0,Value.int 0 0,Value.int 3 0,Value.ref 242,Value.bool true,Value.int 276 0,Value.ref 243,Value.none,Value.none,Value.none,Value.ref 244,Value.int 654 0,Value.int 286 0,Value.str (Str.ofString "/claim/cut.py") 655] }),
    (246,{ cls:=Value.type "function", data:=Data.func { name:=Str.ofString "law", qualname:=Str.ofString "law", params:=?A246,body:=.stmts ?B246,scope:=?S246,globals:=3,closure:=[],defaults:=Value.none,kwdefaults:=Value.none,pyModule:=Value.str (Str.ofString "law_rs0229_01") 612,code:=Value.ref 245 } })]
noncomputable def er:Value→Value
  | .int i _=>.int i 0
  | .float b _=>.float b 0
  | .str s _=>.str s 0
  | .bytes b _=>.bytes b 0
  | v=>v
noncomputable def Vs (p:Value) (P:Value→Prop):Prop:=match p with
  | .int i _=>∀ t,P (.int i t)
  | .float b _=>∀ t,P (.float b t)
  | .str s _=>∀ t,P (.str s t)
  | .bytes b _=>∀ t,P (.bytes b t)
  | v=>P v
theorem Vs.get {p v:Value} {P:Value→Prop} (h:Vs p P) (e:er v = p):P v:=by
  subst e
  cases v <;> first | exact h _ | exact h
inductive PO where
  | ns (m:List (Str × Value))
  | idc (m:List (Str × Value))
  | lst (xs:List Value)
  | tup (xs:List Value)
  | ins (C d:Addr)
  | cel (v:Option Value)
  | raw (o:Obj)
  | prd (P:Obj→Prop)
noncomputable def PO.Of:PO→Obj→Prop
  | .ns m,o=>∃ es ep,o.data = .dict es ep∧StrKeys es∧∀ x,(nsFind es x).map er = m.lookup x
  | .idc m,o=>∃ es ep,o.data = .dict es ep∧StrKeys es∧(∀ x,(nsFind es x).map er = m.lookup x)∧es.size≤m.length
  | .lst xs,o=>∃ its n,o = { cls:=.type "list", data:=.seq its n }∧its.toList.map er = xs
  | .tup xs,o=>∃ its n,o = { cls:=.type "tuple", data:=.seq its n }∧its.toList.map er = xs
  | .ins C d,o=>o = { cls:=.ref C,dict:=some d }
  | .cel v,o=>∃ v',o.data = .cell v'∧v'.map er = v
  | .raw o',o=>o = o'
  | .prd P,o=>P o
noncomputable def itr (l:Addr) (i:Nat):PO:=.prd fun o=>o.cls = .type "list_iterator" ∧ o.data = .fields #[.ref l,.int i 0]
structure LamTab where
  P:Addr
  pos:Pos
  qual:Str
  own:Option (Addr × Obj):=none
structure LamOk (h:Heap) (lo:Nat) (keys:List Addr) (q:LamTab):Prop where
  tab:∃ ps,h.get? q.P = some { cls:=.none,data:=.fields ps }∧TriplesOk ps.toList∧∀ cv,codeAmong q.pos ps.toList = some cv→∃ c o vs t,cv = .ref c∧c ∉ keys∧lo≤c∧h.get? c = some o∧o.data = .fields vs∧vs[1]? = some (.str q.qual t)
  fix:∀ p,q.own = some p→p.1 ∉ keys∧lo≤p.1∧h.get? p.1 = some p.2
theorem LamOk.step {h h':Heap} {lo:Nat} {keys keys':List Addr} {q:LamTab} (x:LamOk h lo keys q) (k1:∀ o,h.get? q.P = some o→h'.get? q.P = some o) (k2:∀ b o,b ∉ keys→h.get? b = some o→h'.get? b = some o) (k3:∀ c,c < h.objs.size→c ∉ keys→c ∉ keys'):LamOk h' lo keys' q:=by
  obtain ⟨⟨ps,h1,h2,h3⟩,h4⟩:=x
  refine ⟨⟨ps,k1 _ h1,h2,fun cv hcv=>?_⟩,fun p hp=>?_⟩
  · obtain ⟨c,o,vs,t,e,hn,hlo,hc,r⟩:=h3 cv hcv
    exact ⟨c,o,vs,t,e,k3 c (Heap.lt_size hc) hn,hlo,k2 c o hn hc,r⟩
  · obtain ⟨hn,hlo,hc⟩:=h4 p hp
    exact ⟨k3 _ (Heap.lt_size hc) hn,hlo,k2 _ _ hn hc⟩
structure Cx where
  h₀:Heap
  os:OsState
  K:Frag
  kin:K.In h₀
  kcls:∀ a o,K.lookup a = some o→o.cls ≠ .none
  lim:h₀.NoLimit
  low:cStatics < h₀.objs.size
  last:∃ a o,h₀.get? a = some o∧h₀.objs.size = a + 1
  mb:Str→Option Value
  bns:h₀.Ns builtinsNs mb
  bb:∀ x:Str,x ≠ "__name__" → mb x = bootBuiltins x
  mg:Str→Option Value
  gns:h₀.Ns mainGlobals mg
  bmain:∃ bm ob,mg "__builtins__" = some (.ref bm)∧bm ≠ builtinsNs∧h₀.get? bm = some ob∧ob.cls = .type "module" ∧ ob.dict = some builtinsNs∧ob.data = .plain
  lams:List LamTab
  lamlow:∀ q∈lams,q.P < h₀.objs.size
  lamtab:∀ q∈lams,q.P ≠ cStatics∧∃ c ps,h₀.TableAt c q.P ps
  lamsame:∀ q∈lams,∀ r∈lams,r.P = q.P→r.pos = q.pos∧r.qual = q.qual
  gl:List (Nat × GenState):=[]
noncomputable abbrev Led:=List (Addr × PO)
structure Sat (C:Cx) (σ:Led) (s:Shared):Prop where
  old:OldK C.h₀ s.heap
  stat:s.heap.get? cStatics = C.h₀.get? cStatics
  led:∀ p∈σ,∃ o,s.heap.get? p.1 = some o∧p.2.Of o
  low:∀ p∈σ,C.h₀.objs.size≤p.1
  nd:(σ.map (·.1)).Nodup
  os:s.os = C.os
  gens:AllBare s.gens
  gl:∀ p∈C.gl,s.gens[p.1]? = some p.2
  tk:0 < s.toks
  lam:∀ q∈C.lams,LamOk s.heap C.h₀.objs.size (σ.map (·.1)) q
section
variable {C:Cx} {σ σ':Led} {s s':Shared} {a:Addr} {p p':PO} {o:Obj}
theorem Sat.size (S:Sat C σ s):C.h₀.objs.size≤s.heap.objs.size:=by
  obtain ⟨a,o,ho,e⟩:=C.last
  obtain ⟨o',ho'⟩:=S.old.there a o ho
  rw [e]
  exact Nat.succ_le_of_lt (Heap.lt_size ho')
theorem OldK.lowK {h₀ h h':Heap} (K:OldK h₀ h) (hk:∀ b o,b < h₀.objs.size→h.get? b = some o→h'.get? b = some o):OldK h₀ h' :=
  ⟨fun b o e=>by
    have lb:=Heap.lt_size e
    rcases K.old b o e with x | ⟨t,hc,vs,more,hv,x⟩ | ⟨rfl,hc,⟨o',es,n,ho',r⟩,z⟩
    · exact .inl (hk _ _ lb x)
    · exact .inr (.inl ⟨t,hc,vs,more,hv,hk _ _ lb x⟩)
    · exact .inr (.inr ⟨rfl,hc,⟨o',es,n,hk _ _ lb ho',r⟩,fun key=>by rw [OldK.staticOf_congr ((hk _ _ lb ho').trans ho'.symm) key]; exact z key⟩),
   fun b o e=>let ⟨o',ho'⟩:=K.there b o e; ⟨o',hk _ _ (Heap.lt_size e) ho'⟩⟩
theorem Sat.kin (S:Sat C σ s):C.K.In s.heap:=fun a o e=>S.old.get_of_cls (C.kin a o e) (C.kcls a o e)
theorem Sat.lim (S:Sat C σ s):s.heap.NoLimit:=by
  obtain ⟨mc,⟨o,es,ep,ho,r⟩,q⟩:=C.lim
  exact ⟨mc,⟨o,es,ep,S.stat.trans ho,r⟩,q⟩
theorem Sat.get (S:Sat C σ s) (hm:(a,p)∈σ):∃ o,s.heap.get? a = some o∧p.Of o:=S.led _ hm
theorem Sat.lt (S:Sat C σ s) (hm:(a,p)∈σ):a < s.heap.objs.size:=let ⟨_,ho,_⟩:=S.led _ hm; Heap.lt_size ho
theorem Sat.tok (S:Sat C σ s) (t:Nat) (ht:0 < t:=by wtm_at "r_pos"):Sat C σ { s with toks:=t }:=⟨S.old,S.stat,S.led,S.low,S.nd,S.os,S.gens,S.gl,ht,S.lam⟩
theorem Sat.sub (S:Sat C σ s) (h:σ'.Sublist σ):Sat C σ' s :=
  ⟨S.old,S.stat,fun p hp=>S.led p (h.subset hp),fun p hp=>S.low p (h.subset hp),(h.map _).nodup S.nd,S.os,S.gens,S.gl,S.tk,fun q hq=>(S.lam q hq).step (fun _ e=>e) (fun _ _ _ e=>e) fun c _ hn hc=>hn ((h.map _).subset hc)⟩
theorem Sat.perm (S:Sat C σ s) (h:σ.Perm σ'):Sat C σ' s :=
  ⟨S.old,S.stat,fun p hp=>S.led p (h.symm.subset hp),fun p hp=>S.low p (h.symm.subset hp),(h.map _).nodup_iff.mp S.nd,S.os,S.gens,S.gl,S.tk,fun q hq=>(S.lam q hq).step (fun _ e=>e) (fun _ _ _ e=>e) fun c _ hn hc=>hn ((h.map _).symm.subset hc)⟩
theorem Sat.stat_ne (S:Sat C σ s) (ha:C.h₀.objs.size≤a):a ≠ cStatics:=fun e=>absurd (e ▸ ha:C.h₀.objs.size≤cStatics) (Nat.not_le.mpr C.low)
theorem Sat.push (S:Sat C σ s) (hp:p.Of o) (hf:o.isFreed = false) (t:Nat) (ht:0 < t:=by wtm_at "r_pos"):Sat C ((s.heap.objs.size,p)::σ) { s with heap:=s.heap.push o,toks:=t }:=by
  have k:∀ b x,s.heap.get? b = some x→(s.heap.push o).get? b = some x:=fun b x e=>Heap.get?_push_of_some o e
  refine ⟨S.old.step_keeps k,?_,fun q hq=>?_,fun q hq=>?_,?_,S.os,S.gens,S.gl,ht,fun q hq=>(S.lam q hq).step (fun o e=>k _ o e) (fun b o _ e=>k b o e) fun c hc hn hm=>?_⟩
  · obtain ⟨mc,⟨oc,es,ep,hc,_⟩,_⟩:=C.lim
    exact (k _ _ (S.stat.trans hc)).trans hc.symm
  · rcases List.mem_cons.mp hq with rfl | hq
    · exact ⟨o,Heap.get?_push_size _ hf,hp⟩
    · obtain ⟨x,hx,h⟩:=S.led q hq; exact ⟨x,k _ _ hx,h⟩
  · rcases List.mem_cons.mp hq with rfl | hq
    · exact S.size
    · exact S.low q hq
  · rw [List.map_cons]
    refine List.nodup_cons.mpr ⟨fun hm=>?_,S.nd⟩
    obtain ⟨q,hq,e⟩:=List.mem_map.mp hm
    have : q.1 < s.heap.objs.size:=S.lt (p:=q.2) hq
    rw [e] at this
    exact Nat.lt_irrefl _ this
  · rw [List.map_cons] at hm
    rcases List.mem_cons.mp hm with e | hm
    · exact Nat.ne_of_lt hc e
    · exact hn hm
theorem Sat.push0 (S:Sat C σ s) (o:Obj) (t:Nat) (ht:0 < t:=by wtm_at "r_pos"):Sat C σ { s with heap:=s.heap.push o,toks:=t }:=by
  have k:∀ b x,s.heap.get? b = some x→(s.heap.push o).get? b = some x:=fun b x e=>Heap.get?_push_of_some o e
  refine ⟨S.old.step_keeps k,?_,fun q hq=>?_,S.low,S.nd,S.os,S.gens,S.gl,ht,fun q hq=>(S.lam q hq).step (fun o e=>k _ o e) (fun b o _ e=>k b o e) fun c _ hn=>hn⟩
  · obtain ⟨mc,⟨oc,es,ep,hc,_⟩,_⟩:=C.lim
    exact (k _ _ (S.stat.trans hc)).trans hc.symm
  · obtain ⟨x,hx,h⟩:=S.led q hq; exact ⟨x,k _ _ hx,h⟩
theorem Sat.ext (S:Sat C ((a,p)::σ) s) {h':Heap} (hx:Heap.ExtBut a s.heap h') (t:Nat) (ht:0 < t:=by wtm_at "r_pos"):Sat C σ { s with heap:=h',toks:=t }:=by
  have ha:=S.low _ (.head _)
  have k:∀ b o,b < C.h₀.objs.size→s.heap.get? b = some o→h'.get? b = some o:=fun b o hb e=>hx b o (fun q=>by rw [q] at hb; exact Nat.lt_irrefl _ (Nat.lt_of_lt_of_le hb ha)) e
  have nd:=S.nd
  rw [List.map_cons,List.nodup_cons] at nd
  refine ⟨OldK.lowK S.old k,?_,fun q hq=>?_,fun q hq=>S.low q (.tail _ hq),nd.2,S.os,S.gens,S.gl,ht,fun q hq=>(S.lam q hq).step (fun o e=>k _ o (C.lamlow q hq) e)
    (fun b o hb e=>hx b o (fun q=>hb (by rw [List.map_cons,q]; exact .head _)) e) fun c _ hn hm=>hn (by rw [List.map_cons]; exact .tail _ hm)⟩
  · obtain ⟨mc,⟨oc,es,ep,hc,_⟩,_⟩:=C.lim
    exact (k _ _ C.low (S.stat.trans hc)).trans hc.symm
  · obtain ⟨x,hx',h⟩:=S.led q (.tail _ hq)
    exact ⟨x,hx _ _ (fun e=>nd.1 (e ▸ List.mem_map_of_mem (f:=(·.1)) hq)) hx',h⟩
inductive Upd (a:Addr) (p p':PO):Led→Led→Prop
  | head {r}:Upd a p p' ((a,p)::r) ((a,p')::r)
  | tail {q r r'}:Upd a p p' r r'→Upd a p p' (q::r) (q::r')
theorem Upd.keys (U:Upd a p p' σ σ'):σ'.map (·.1) = σ.map (·.1):=by
  induction U with
  | head=>rfl
  | tail _ ih=>rw [List.map_cons,List.map_cons,ih]
theorem Upd.mem (U:Upd a p p' σ σ'):(a,p)∈σ:=by
  induction U with
  | head=>exact .head _
  | tail _ ih=>exact .tail _ ih
theorem Upd.cases (U:Upd a p p' σ σ') (nd:(σ.map (·.1)).Nodup):∀ q∈σ',q = (a,p') ∨ (q∈σ∧q.1 ≠ a):=by
  induction U with
  | head =>
    intro q hq
    rw [List.map_cons,List.nodup_cons] at nd
    rcases List.mem_cons.mp hq with rfl | hq
    · exact .inl rfl
    · exact .inr ⟨.tail _ hq,fun e=>nd.1 (e ▸ List.mem_map_of_mem (f:=(·.1)) hq)⟩
  | @tail x r r' U ih =>
    intro q hq
    rw [List.map_cons,List.nodup_cons] at nd
    rcases List.mem_cons.mp hq with rfl | hq
    · refine .inr ⟨.head _,fun e=>nd.1 ?_⟩
      rw [e]; exact List.mem_map_of_mem (f:=(·.1)) U.mem
    · rcases ih nd.2 q hq with e | ⟨h1,h2⟩
      · exact .inl e
      · exact .inr ⟨.tail _ h1,h2⟩
theorem Sat.set (S:Sat C σ s) (U:Upd a p p' σ σ') {h':Heap} (hs:Heap.SameBut a s.heap h') (ho:h'.get? a = some o) (hp:p'.Of o) (t:Nat) (ht:0 < t:=by wtm_at "r_pos"):Sat C σ' { s with heap:=h',toks:=t }:=by
  have ha:=S.low _ U.mem
  refine ⟨S.old.step_same ha hs,(hs.2 _ (S.stat_ne ha).symm).trans S.stat,fun q hq=>?_,fun q hq=>?_,by rw [U.keys]; exact S.nd,S.os,S.gens,S.gl,ht,fun q hq=>(S.lam q hq).step
    (fun o e=>(hs.2 _ (fun e':q.P = a=>Nat.lt_irrefl _ (Nat.lt_of_lt_of_le (C.lamlow q hq) (Nat.le_trans ha (Nat.le_of_eq e'.symm))))).trans e) (fun b o hb e=>(hs.2 b (fun e':b = a=>hb (e' ▸ List.mem_map_of_mem (f:=(·.1)) U.mem))).trans e) fun c _ hn=>by rw [U.keys]; exact hn⟩
  · rcases U.cases S.nd q hq with rfl | ⟨h1,h2⟩
    · exact ⟨o,ho,hp⟩
    · obtain ⟨x,hx,h⟩:=S.led q h1
      exact ⟨x,(hs.2 _ h2).trans hx,h⟩
  · rcases U.cases S.nd q hq with rfl | ⟨h1,h2⟩
    · exact ha
    · exact S.low q h1
theorem Sat.upd (S:Sat C σ s) (U:Upd a p p' σ σ') {f:Obj→Obj} (ho:s.heap.get? a = some o) (hp:p'.Of (f o)) (hf:(f o).isFreed = false) (t:Nat) (ht:0 < t:=by wtm_at "r_pos"):Sat C σ' { s with heap:=s.heap.update a f,toks:=t } :=
  S.set U (Heap.SameBut.update ..) (Heap.get?_update_self f ho hf) hp t ht
end
section
variable {prog:Program} {w:World} {A:Around} {E:Value→Shared→Prop} {C:Cx} {σ σ':Led} {s:Shared} {env:Env} {x:Str} {pos:Pos} {pv v:Value} {Q:Value→Shared→Prop} {m:List (Str × Value)}
theorem PO.ns_of {h:Heap} {L:Addr} {o:Obj} (ho:h.get? L = some o) (hp:(PO.ns m).Of o):∃ mm,h.Ns L mm∧∀ x,(mm x).map er = m.lookup x:=by
  obtain ⟨es,ep,e,k,f⟩:=hp
  exact ⟨_,⟨o,es,ep,ho,e,k,fun _=>rfl⟩,f⟩
theorem PO.of_ns {h:Heap} {L:Addr} {mm:Str→Option Value} (n:h.Ns L mm) (hm:∀ x,(mm x).map er = m.lookup x):∃ o,h.get? L = some o∧(PO.ns m).Of o:=by
  obtain ⟨o,es,ep,ho,e,k,f⟩:=n
  exact ⟨o,ho,es,ep,e,k,fun x=>by rw [f]; exact hm x⟩
theorem ldL (S:Sat C σ s) (hm:(env.locals,.ns m)∈σ) (hx:m.lookup x = some pv) (hk:env.scope.kind = .function) (hl:env.kindOf x = some .local) (h:Vs pv (fun v=>Q v s)) :
    wpAny (model prog w) A (loadName env x) Q E s:=by
  obtain ⟨o,ho,hp⟩:=S.get hm
  obtain ⟨mm,n,f⟩:=PO.ns_of ho hp
  have e:=f x
  rw [hx] at e
  obtain ⟨v,hv,he⟩:=Option.map_eq_some_iff.mp e
  exact wpAny_loadName_local hk hl n hv (h.get he)
theorem ldC {c:Addr} (S:Sat C σ s) (hc:env.cells.lookup x = some c) (hm:(c,.cel (some pv))∈σ) (hk:env.scope.kind = .function) (hl:env.kindOf x = some .cell) (h:Vs pv (fun v=>Q v s)) :
    wpAny (model prog w) A (loadName env x) Q E s:=by
  obtain ⟨o,ho,v',hd,hv⟩:=S.get hm
  obtain ⟨v,rfl,he⟩:=Option.map_eq_some_iff.mp hv
  exact wpAny_loadName_cell hk hl hc ⟨o,ho,hd⟩ (h.get he)
theorem ldF {c:Addr} (S:Sat C σ s) (hc:env.cells.lookup x = some c) (hm:(c,.cel (some pv))∈σ) (hk:env.scope.kind = .function) (hl:env.kindOf x = some .free) (h:Vs pv (fun v=>Q v s))
    (hn:(x == ("__classdict__" : Str)) = false:=by decide):wpAny (model prog w) A (loadName env x) Q E s:=by
  obtain ⟨o,ho,v',hd,hv⟩:=S.get hm
  obtain ⟨v,rfl,he⟩:=Option.map_eq_some_iff.mp hv
  exact wpAny_loadName_free hk hl hc ⟨o,ho,hd⟩ (h.get he) hn
theorem loadName_global (hk:env.scope.kind = .function) (hx:env.kindOf x = some .globalImplicit):loadName env x = loadGlobal env x:=by
  unfold loadName Env.blockKind
  rw [hk,hx]
  rfl
theorem ldG (S:Sat C σ s) (e:nsIn C.K mainGlobals x = some (some v)) (hk:env.scope.kind = .function) (hx:env.kindOf x = some .globalImplicit) (hg:env.globals = mainGlobals) (h:Q v s) :
    wpAny (model prog w) A (loadName env x) Q E s:=by
  rw [loadName_global hk hx]
  unfold loadGlobal
  rw [hg]
  exact wpAny_bind ((looks_nsIn S.kin e).here (wpAny_pure h))
theorem Sat.bns (S:Sat C σ s):s.heap.Ns builtinsNs C.mb:=by
  obtain ⟨o,es,ep,ho,hd,k,f⟩:=C.bns
  refine ⟨o,es,ep,?_,hd,k,f⟩
  rcases S.old.old _ _ ho with x | ⟨t,hc,vs,more,hv,x⟩ | ⟨e,_⟩
  · exact x
  · rw [hv] at hd; cases hd
  · cases e
theorem ldB (S:Sat C σ s) (e:nsIn C.K mainGlobals x = some none) (e2:bootBuiltins x = some v) (hn:x ≠ "__name__") (hk:env.scope.kind = .function) (hx:env.kindOf x = some .globalImplicit) (hg:env.globals = mainGlobals) (hb:env.builtins = builtinsNs) (h:Q v s) :
    wpAny (model prog w) A (loadName env x) Q E s:=by
  rw [loadName_global hk hx]
  unfold loadGlobal
  rw [hg,hb]
  refine wpAny_bind ((looks_nsIn S.kin e).here (wpAny_bind (wpAny_nsGet S.bns ?_)))
  rw [C.bb x hn,e2]
  exact wpAny_pure h
theorem stL {Q:Unit→Shared→Prop} (S:Sat C σ s) (U:Upd env.locals (.ns m) (.ns ((x,er v)::m)) σ σ') (hl:env.kindOf x = some .local) (hk:env.scope.kind = .function) (h:∀ s',Sat C σ' s'→Q () s') :
    wpAny (model prog w) A (storeName env x v) Q E s:=by
  obtain ⟨o,ho,hp⟩:=S.get U.mem
  obtain ⟨mm,n,f⟩:=PO.ns_of ho hp
  refine wpAny_storeName_local hl n (fun h' n' hs=>?_) (by rw [hk]; rfl)
  obtain ⟨o',ho',hp'⟩:=PO.of_ns (m:=(x,er v)::m) n' (fun y=>by
    show (if y = x then some v else mm y).map er = _
    rw [List.lookup_cons]
    by_cases q:y = x
    · subst q; simp
    · have : (y == x) = false:=beq_eq_false_iff_ne.mpr q
      rw [if_neg q,this]; exact f y)
  exact h _ (S.set U hs ho' hp' _)
theorem stC {Q:Unit→Shared→Prop} {c:Addr} {v₀:Option Value} (S:Sat C σ s) (hc:env.cells.lookup x = some c) (U:Upd c (.cel v₀) (.cel (some (er v))) σ σ') (hl:env.kindOf x = some .cell) (hk:env.scope.kind = .function) (h:∀ s',Sat C σ' s'→Q () s') :
    wpAny (model prog w) A (storeName env x v) Q E s:=by
  obtain ⟨o,ho,v',hd,hv⟩:=S.get U.mem
  refine wpAny_storeName_cell hk hl hc ⟨o,ho,hd⟩ fun h' hc' hs=>?_
  obtain ⟨o',ho',hd'⟩:=hc'
  have:=S.set U hs ho' ⟨_,hd',rfl⟩ s.toks
  exact h _ this
end
theorem runs_toks {M:Model} {Γ:Ctx} {p:Pos} {t:Sem Fin} {fs:List Frame} {s:Shared} {e:End} {s':Shared} (h:Runs M Γ p t fs s e s'):s.toks≤s'.toks:=by
  induction h with
  | call _ _ ih1 ih2=>exact Nat.le_trans ih1 ih2
  | resumeFresh _ _ _ _ ih1 ih2=>exact Nat.le_trans ih1 ih2
  | resumeSuspended _ _ _ _ ih1 ih2=>exact Nat.le_trans ih1 ih2
  | segRet _ _ ih1 ih2=>exact Nat.le_trans ih1 ih2
  | segGen _ _ ih1 ih2=>exact Nat.le_trans ih1 ih2
  | segSuspGen _ _ _ _ ih1 ih2=>exact Nat.le_trans ih1 ih2
  | fresh _ ih=>exact Nat.le_trans (Nat.le_succ _) ih
  | _=>first | exact Nat.le_refl _ | assumption
theorem wakes_toks {M:Model} {Γ:Ctx} {p:Pos} {g:Nat} {r:Resume} {s:Shared} {res:GenResult} {s':Shared} (h:Wakes M Γ p g r s res s'):s.toks≤s'.toks:=by
  unfold Wakes at h
  cases e:s.gens[g]? with
  | none=>rw [e] at h; exact h.elim
  | some gs =>
    rw [e] at h
    have k1:∀ {s':Shared} {res:GenResult} {t:Sem Fin} {fs:List Frame} {Γ:Ctx} {p:Pos},(∃ e₁ s₁,Runs M Γ p t fs (s.setGen g .running) e₁ s₁∧e₁.quiet = true∧res = e₁.result∧s' = s₁.setGen g e₁.genState)→s.toks≤s'.toks:=fun h=>by
      obtain ⟨e,s₁,hr,_,_,rfl⟩:=h; have:=runs_toks hr; exact this
    have k2:∀ {s':Shared} {P:Prop},(P∧s' = s)→s.toks≤s'.toks:=fun h=>Nat.le_of_eq (by rw [h.2])
    cases gs with
    | fresh c =>
      cases r with
      | send v=>cases v <;> first | exact k1 h | exact k2 h
      | throw x=>rw [h.2]; exact Nat.le_refl _
    | suspended=>exact k1 h
    | running=>exact k2 h
    | finished=>exact k2 h
theorem wp_toks {α:Type} {M:Model} {Γ:Ctx} (t:Sem α):∀ {Q:α→Pos→Shared→Prop} {E:Value→Pos→Shared→Prop} {p:Pos} {s:Shared},Sem.wp M Γ t Q E p s →
    Sem.wp M Γ t (fun a p' s'=>Q a p' s'∧s.toks≤s'.toks) E p s:=by
  have up:∀ {β:Type} (t:Sem β) {Q:β→Pos→Shared→Prop} {E:Value→Pos→Shared→Prop} {p:Pos} {s₀ s:Shared},s₀.toks≤s.toks →
      Sem.wp M Γ t (fun a p' s'=>Q a p' s'∧s.toks≤s'.toks) E p s→Sem.wp M Γ t (fun a p' s'=>Q a p' s'∧s₀.toks≤s'.toks) E p s :=
    fun t Q E p s₀ s hl h=>Sem.wp_mono M Γ t (fun _ _ _ h'=>⟨h'.1,Nat.le_trans hl h'.2⟩) (fun _ _ _ h'=>h') _ _ h
  induction t with
  | pure a=>intro Q E p s h; exact ⟨h,Nat.le_refl _⟩
  | raise x=>intro Q E p s h; exact h
  | unsupported what=>intro Q E p s h; exact h.elim
  | finish x=>intro Q E p s h; exact h.elim
  | register a k=>intro Q E p s h; exact h.elim
  | yield v g l k=>intro Q E p s h; exact h.elim
  | fork c k=>intro Q E p s h; exact h.elim
  | await a f d l k=>intro Q E p s h; exact h.elim
  | rule tag k ih=>intro Q E p s h; exact ih () h
  | «at» p' k ih=>intro Q E p s h; exact ih () h
  | load a part k ih=>intro Q E p s h; obtain ⟨o,ho,h⟩:=h; exact ⟨o,ho,ih o h⟩
  | update a part f k ih=>intro Q E p s h; obtain ⟨ha,h⟩:=h; exact ⟨ha,ih () h⟩
  | alloc o k ih=>intro Q E p s h; exact ih _ h
  | loadIfAlive a k ih=>intro Q E p s h; exact ih _ h
  | point l k ih=>intro Q E p s h; exact ih () h
  | fresh k ih=>intro Q E p s h; exact up _ (s₀:=s) (s:={ s with toks:=s.toks + 1 }) (Nat.le_succ _) (ih _ h)
  | ask k ih=>intro Q E p s h; exact ih _ h
  | choose src n k ih=>intro Q E p s h; obtain ⟨hn,h⟩:=h; exact ⟨hn,ih _ h⟩
  | os q l k ih=>intro Q E p s h; exact ih _ h
  | call c h g l k ih =>
    intro Q E p s hw; obtain ⟨r,s₁,hret,hw⟩:=hw
    exact ⟨r,s₁,hret,up _ (runs_toks hret) (ih r hw)⟩
  | handled own k ih=>intro Q E p s h; exact ih _ h
  | newGen c k ih=>intro Q E p s h; exact ih _ h
  | genState g k ih=>intro Q E p s h; obtain ⟨st,hg,h⟩:=h; exact ⟨st,hg,ih _ h⟩
  | resume g r l k ih =>
    intro Q E p s h; obtain ⟨res,s₁,hwk,h⟩:=h
    exact ⟨res,s₁,hwk,up _ (wakes_toks hwk) (ih res h)⟩
  | stack k ih=>intro Q E p s h; exact ih _ h
  | thread k ih=>intro Q E p s h; exact ih _ h
theorem withTk {α:Type} {M:Model} {A:Around} {t:Sem α} {Q:α→Shared→Prop} {E:Value→Shared→Prop} {s:Shared} (h:wpAny M A t (fun a s'=>0 < s'.toks→Q a s') E s) (h0:0 < s.toks):wpAny M A t Q E s:=fun Γ p hΓ =>
  Sem.wp_mono M Γ t (fun _ _ _ h'=>h'.1 (Nat.lt_of_lt_of_le h0 h'.2)) (fun _ _ _ h'=>h') _ _ (wp_toks t (h Γ p hΓ))
section
variable {name:Str} {o:Obj} {m:List (Str × Value)} {v:Value} {es:Array DictEntry} {ep:Nat}
theorem look_of (hd:o.data = .dict es ep) (k:StrKeys es):lookIn name o = some (nsFind es name):=by
  unfold lookIn nsFind findBy
  rw [hd]
  dsimp only
  rw [← Array.find?_toList]
  cases hf:es.toList.find? (fun e=>e.key.isStr name) with
  | some e=>rfl
  | none =>
    have : es.toList.any (·.refKey) = false:=by
      rw [List.any_eq_false]
      intro e he
      obtain ⟨n,t,h⟩:=k e (Array.mem_toList_iff.mp he)
      simp [DictEntry.refKey,h]
    dsimp only
    rw [this]; rfl
theorem putName_of (hp:(PO.idc m).Of o) (hsh:Int) (t:Tok):(PO.idc ((name,er v)::m)).Of (Obj.putName name hsh (.str name t) v o)∧(Obj.putName name hsh (.str name t) v o).isFreed = false:=by
  obtain ⟨es,ep,hd,k,f,z⟩:=hp
  obtain ⟨c,d,dt,sl⟩:=o
  subst hd
  have key:∀ (es':Array DictEntry) ep' (o':Obj),o'.data = .dict es' ep'→StrKeys es'→es'.size≤m.length + 1→(∀ x,nsFind es' x = if x = name then some v else nsFind es x) →
      (PO.idc ((name,er v)::m)).Of o'∧o'.isFreed = false:=by
    intro es' ep' o' hd' k' z' f'
    refine ⟨⟨es',ep',hd',k',fun x=>?_,by rw [List.length_cons]; exact z'⟩,Obj.isFreed_of_dict hd'⟩
    rw [f',List.lookup_cons]
    by_cases q:x = name
    · subst q; simp
    · have : (x == name) = false:=beq_eq_false_iff_ne.mpr q
      rw [if_neg q,this]; exact f x
  cases hi:es.findIdx? (·.key.isStr name) with
  | some i =>
    refine key (es.modify i fun e=>{ e with val:=v }) ep _ (by simp only [Obj.putName_eq,Obj.putNameByArray,hi]) (k.modify _ _) (Nat.le_succ_of_le (by rw [Array.size_modify]; exact z)) fun x=>?_
    exact findBy_modify (fun n v=>v.isStr n) Value.isStr_inj es name x v i hi
  | none =>
    refine key (es.push ⟨hsh,.str name t,v⟩) (ep + 1) _ (by simp only [Obj.putName_eq,Obj.putNameByArray,hi]) (k.push _ _ _ _) (by rw [Array.size_push]; exact Nat.succ_le_succ z) fun x=>?_
    exact findBy_push (fun n v=>v.isStr n) es name x _ _ v (fun y=>by
      show (name == y) = decide (y = name)
      by_cases h:y = name
      · subst h; simp
      · have : ¬ name = y:=fun e=>h e.symm
        simp [h,this]) hi
end
section
variable {prog:Program} {w:World} {A:Around} {E:Value→Shared→Prop} {C:Cx} {σ σ':Led} {s:Shared} {name:Str} {pv v:Value} {m:List (Str × Value)} {x d Cc f:Addr}
theorem Sat.inst (S:Sat C σ s) (hm:(x,.ins Cc d)∈σ) (hd:(d,.idc m)∈σ):∃ od es ep,InstAt s.heap x ⟨.ref Cc,some d,.plain,#[]⟩ Cc (some od)∧s.heap.get? d = some od∧od.data = .dict es ep∧StrKeys es∧(∀ y,(nsFind es y).map er = m.lookup y)∧es.size≤m.length:=by
  obtain ⟨ox,hx,px⟩:=S.get hm
  obtain ⟨od,ho,es,ep,e,k,f,z⟩:=S.get hd
  have px:ox = _:=px
  subst px
  exact ⟨od,es,ep,⟨hx,rfl,rfl,ho⟩,ho,e,k,f,z⟩
theorem getA {Q:Value→Shared→Prop} {expr:Bool} (S:Sat C σ s) (hm:(x,.ins Cc d)∈σ) (hd:(d,.idc m)∈σ) (hx:m.lookup name = some pv) (hg:plainGet C.K Cc name = true) (hh:hasDictIn C.K Cc = true)
    (ha:findIn C.K (.ref Cc) name = some none) (hv:handedIn pv = true) (h:∀ s',Sat C σ s'→Vs pv (fun v=>Q v s')):wpAny (model prog w) A (getAttr (.ref x) name expr) Q E s:=by
  obtain ⟨od,es,ep,I,ho,e,k,f,z⟩:=S.inst hm hd
  have q:=f name
  rw [hx] at q
  obtain ⟨v,hf,he⟩:=Option.map_eq_some_iff.mp q
  have hv':handedIn v = true:=by subst he; cases v <;> first | rfl | exact hv
  exact get_value S.kin I (plainGet_of hg).1 (findObj_own hh ha rfl (by rw [look_of e k,hf])) hv' ((h _ (S.tok _)).get he)
theorem mth {Q:Value × List Value→Shared→Prop} {pl:Sem Bool} (S:Sat C σ s) (hm:(x,.ins Cc d)∈σ) (hd:(d,.idc m)∈σ) (hx:m.lookup name = none) (hg:plainGet C.K Cc name = true)
    (hf:findIn C.K (.ref Cc) name = some (some (.ref f))) (ht:typeIn C.K (.ref f) = some (.type "function")) (h:Q (.ref f,[.ref x]) s):wpAny (model prog w) A (getMethod (.ref x) name pl) Q E s:=by
  obtain ⟨od,es,ep,I,ho,e,k,ff,z⟩:=S.inst hm hd
  have q:=ff name
  rw [hx,Option.map_eq_none_iff] at q
  refine method_fn S.kin I (plainGet_of hg).1 (plainGet_of hg).2 hf ht ?_ h
  show (lookIn name od).map _ = _
  rw [look_of e k,q]; rfl
theorem setA {Q:Unit→Shared→Prop} (S:Sat C σ s) (hm:(x,.ins Cc d)∈σ) (U:Upd d (.idc m) (.idc ((name,er v)::m)) σ σ') (hs:findIn C.K (.ref Cc) "__setattr__" = some (some (.builtin "object.__setattr__"))) (hp:plainOver C.K Cc = true)
    (ht:takerIn C.K Cc name = some none) (hh:hasDictIn C.K Cc = true) (hz:m.length < 1000) (h:∀ s',Sat C σ' s'→Q () s'):wpAny (model prog w) A (setAttr (.ref x) name v) Q E s:=by
  obtain ⟨od,es,ep,I,ho,e,k,ff,z⟩:=S.inst hm U.mem
  refine set_plain S.kin I hs ?_
  have S1:=S.tok (s.toks + 1)
  refine osa_open (s:={ s with toks:=s.toks + 1 }) S1.kin I hp ht fun b=>?_
  obtain ⟨cd,hc,hd'⟩:=any_some hh
  have X:=S1.kin
  refine wpAny_bind (wpAny_pure (wpAny_bind (wpAny_bind (wpAny_loadPart I.at_ (wpAny_bind ((looks_clsIn X hc).here ?_))))))
  rw [hd']
  refine wpAny_pure (a:=some d) (wpAny_bind (wpAny_pure (wpAny_bind ?_)))
  unfold nsSet
  refine wpAny_bind (wpAny_bind (wpAny_askSetting (wpAny_pure (wpAny_bind (wpAny_mkText (wpAny_bind (wpAny_loadPart ho ?_)))))))
  rw [e]
  dsimp only
  have c:(!es.any (·.key.isStr name) && es.any (·.refKey)) = false:=by
    have : es.any (·.refKey) = false:=by
      rw [Array.any_eq_false']; intro e he; obtain ⟨n,t,h⟩:=k e he; simp [DictEntry.refKey,h]
    rw [this,Bool.and_false]
  rw [aRefKeyMayBeTheName_at,c]
  have P:∀ hsh tk,_:=fun hsh tk=>putName_of (name:=name) (v:=v) (o:=od) (m:=m) ⟨es,ep,e,k,ff,z⟩ hsh tk
  refine wpAny_updatePart ho ?_
  refine wpAny_bind (wpAny_lookBehind (Heap.get?_update_self _ ho (P _ _).2) ?_ ?_)
  · obtain ⟨⟨es',ep',e',_,_,z'⟩,_⟩:=P (if name.cps.isEmpty then 0 else reduceHash ((model prog w).w.params.strHash name.cps)) (s.toks + 1)
    rw [e']
    exact pastItsLine_dict (by rw [sizeLine_eq]; rw [List.length_cons] at z'; wtm_at "om")
  · refine wpAny_pure ?_
    exact h _ (S.upd U ho (P _ _).1 (P _ _).2 _)
theorem callFnC {R:Result→Shared→Prop} {nm qual:Str} {params:Arguments} {body:List Stmt} {scope:Scope} {cl:List (Str × Addr)} {dV kV doc pm cdv ct oc:Value} {an od:Option Addr} {osl:Array (Option Value)} {args:Args} {binds:List (Str × Value)}
    (S:Sat C σ s) (hroom:A.depth < recursionLimit) (ho:C.K.lookup f = some ⟨oc,od,.func (fnX nm qual params body scope cl dV kV doc pm an cdv ct),osl⟩) (hcd:codeIn C.K cdv qual = true)
    (hbind:BindsTo s (fnX nm qual params body scope cl dV kV doc pm an cdv ct) args binds) (hloc:∀ y∈binds,scope.names.lookup y.1 = some .local)
    (h:∀ L s',Sat C ((L,.ns (binds.reverse.map fun y=>(y.1,er y.2)))::σ) s' →
      wpAny (model prog w) (A.deeper (envX qual scope L f cdv cl)) (execs body (envX qual scope L f cdv cl)) (fun fl s''=>R (.ok (.ret (match fl with | .ret v=>v | _=>.none))) s'') (fun _ _=>False) s')
    (hco:scope.isCoroutine = false:=by rfl) (hgen:scope.isGenerator = false:=by rfl) (hk:scope.kind = .function:=by rfl) (hcell:∀ x∈scope.names,x.2 ≠ .cell:=by decide) :
    codeAny (model prog w) A (.call (.ref f) args) R s:=by
  refine codeAny_call_def (fd:=fnX nm qual params body scope cl dV kV doc pm an cdv ct) (body:=body) (binds:=binds) hroom (S.kin _ _ ho) rfl S.lim (codeRec_of S.kin hcd) rfl hbind hcell hloc (fun h₁ hns hk₁=>?_) hco hgen hk
  have sz:s.heap.objs.size < h₁.objs.size:=hns.lt
  have S':Sat C ((s.heap.objs.size,.ns (binds.reverse.map fun y=>(y.1,er y.2)))::σ) { s with heap:=h₁,toks:=s.toks + binds.length }:=by
    obtain ⟨o',ho',hp'⟩:=PO.of_ns (m:=binds.reverse.map fun y=>(y.1,er y.2)) hns (fun x=>by
      induction binds.reverse with
      | nil=>rfl
      | cons y r ih =>
        rw [List.lookup_cons,List.map_cons,List.lookup_cons]
        cases (x == y.1) <;> simp_all)
    refine ⟨S.old.step_keeps hk₁,?_,fun q hq=>?_,fun q hq=>?_,?_,S.os,S.gens,S.gl,by wtm_at "r_pos", fun q hq=>(S.lam q hq).step (fun o e=>hk₁ _ o e) (fun b o _ e=>hk₁ b o e) fun c hc hn hm=>by
      rw [List.map_cons] at hm
      rcases List.mem_cons.mp hm with e | hm
      · exact Nat.ne_of_lt hc e
      · exact hn hm⟩
    · obtain ⟨mc,⟨oc,es,ep,hc,_⟩,_⟩:=C.lim
      exact (hk₁ _ _ (S.stat.trans hc)).trans hc.symm
    · rcases List.mem_cons.mp hq with rfl | hq
      · exact ⟨o',ho',hp'⟩
      · obtain ⟨x,hx,h⟩:=S.led q hq; exact ⟨x,hk₁ _ _ hx,h⟩
    · rcases List.mem_cons.mp hq with rfl | hq
      · exact S.size
      · exact S.low q hq
    · rw [List.map_cons]
      refine List.nodup_cons.mpr ⟨fun hm=>?_,S.nd⟩
      obtain ⟨q,hq,e⟩:=List.mem_map.mp hm
      have : q.1 < s.heap.objs.size:=S.lt (p:=q.2) hq
      rw [e] at this
      exact Nat.lt_irrefl _ this
  exact wpAny_mono (h _ _ S') (fun fl s'' z=>z) fun _ _ z=>z.elim
theorem callFn {Q:Value→Shared→Prop} {nm qual:Str} {params:Arguments} {body:List Stmt} {scope:Scope} {cl:List (Str × Addr)} {dV kV doc pm cdv ct oc:Value} {an od:Option Addr} {osl:Array (Option Value)} {args:Args} {binds:List (Str × Value)}
    (S:Sat C σ s) (hroom:A.depth < recursionLimit) (ho:C.K.lookup f = some ⟨oc,od,.func (fnX nm qual params body scope cl dV kV doc pm an cdv ct),osl⟩) (hcd:codeIn C.K cdv qual = true)
    (hbind:BindsTo s (fnX nm qual params body scope cl dV kV doc pm an cdv ct) args binds) (hloc:∀ y∈binds,scope.names.lookup y.1 = some .local)
    (h:∀ L s',Sat C ((L,.ns (binds.reverse.map fun y=>(y.1,er y.2)))::σ) s' →
      wpAny (model prog w) (A.deeper (envX qual scope L f cdv cl)) (execs body (envX qual scope L f cdv cl)) (fun fl s''=>Q (match fl with | .ret v=>v | _=>.none) s'') (fun _ _=>False) s')
    (hco:scope.isCoroutine = false:=by rfl) (hgen:scope.isGenerator = false:=by rfl) (hk:scope.kind = .function:=by rfl) (hcell:∀ x∈scope.names,x.2 ≠ .cell:=by decide) :
    wpAny (model prog w) A (call (.ref f) args.pos args.kw) Q E s :=
  wpAny_call (callFnC S hroom ho hcd hbind hloc h hco hgen hk hcell)
end
structure Rm (n:Nat) (A:Around):Prop where
  hand:A.handled = none
  dep:A.depth + 4 * n < 900
  un:A.units + 60 * n < 9000
section
variable {prog:Program} {w:World} {A:Around} {E:Value→Shared→Prop} {C:Cx} {σ σ':Led} {s:Shared} {n:Nat}
theorem Rm.in1 (r:Rm (n + 1) A):Rm n A.in1:=⟨r.hand,by have:=r.dep; show A.depth + _ < _; wtm_at "om", by have:=r.un; show A.units + 1 + _ < _; wtm_at "om"⟩
theorem Rm.deeper (r:Rm (n + 1) A) (env:Env):Rm n (A.deeper env):=⟨r.hand,by have:=r.dep; show A.depth + 1 + _ < _; wtm_at "om", by have:=r.un; show A.units + 3 + _ < _; wtm_at "om"⟩
theorem Rm.down (r:Rm (n + 1) A):Rm n A:=⟨r.hand,by have:=r.dep; wtm_at "om", by have:=r.un; wtm_at "om"⟩
theorem Rm.room (r:Rm n A):A.depth < recursionLimit:=by have:=r.dep; show A.depth < 1000; wtm_at "om"
theorem Rm.units (r:Rm n A):A.units < cLine:=by have:=r.un; show A.units < 9900; wtm_at "om"
theorem Sat.lst (S:Sat C σ s) {l:Addr} {xs:List Value} (hm:(l,.lst xs)∈σ):∃ its n,s.heap.get? l = some { cls:=.type "list", data:=.seq its n }∧its.toList.map er = xs:=by
  obtain ⟨o,ho,its,n,rfl,e⟩:=S.get hm
  exact ⟨its,n,ho,e⟩
theorem Sat.isList (S:Sat C σ s) {l:Addr} {xs:List Value} (hm:(l,.lst xs)∈σ):∃ its,s.heap.IsList l its∧its.toList.map er = xs:=by
  obtain ⟨its,n,ho,e⟩:=S.lst hm
  exact ⟨its,⟨_,ho,rfl,n,rfl⟩,e⟩
end
section
variable {prog:Program} {w:World} {A:Around} {E:Value→Shared→Prop} {C:Cx} {σ τ:Led} {s:Shared} {n:Nat} {a it:Addr} {p:PO} {o:Obj}
theorem Sat.grow (S:Sat C σ s) {h':Heap} (k:∀ b o,s.heap.get? b = some o→h'.get? b = some o) (ha:s.heap.objs.size≤a) (ho:h'.get? a = some o) (hp:p.Of o) (t:Nat) (ht:0 < t:=by wtm_at "r_pos"):Sat C ((a,p)::σ) { s with heap:=h',toks:=t }:=by
  refine ⟨S.old.step_keeps k,?_,fun q hq=>?_,fun q hq=>?_,?_,S.os,S.gens,S.gl,ht,fun q hq=>(S.lam q hq).step (fun o e=>k _ o e) (fun b o _ e=>k b o e) fun c hc hn hm=>by
    rw [List.map_cons] at hm
    rcases List.mem_cons.mp hm with e | hm
    · exact Nat.lt_irrefl _ (Nat.lt_of_lt_of_le hc (Nat.le_trans ha (Nat.le_of_eq e.symm)))
    · exact hn hm⟩
  · obtain ⟨mc,⟨oc,es,ep,hc,_⟩,_⟩:=C.lim
    exact (k _ _ (S.stat.trans hc)).trans hc.symm
  · rcases List.mem_cons.mp hq with rfl | hq
    · exact ⟨o,ho,hp⟩
    · obtain ⟨x,hx,h⟩:=S.led q hq; exact ⟨x,k _ _ hx,h⟩
  · rcases List.mem_cons.mp hq with rfl | hq
    · exact Nat.le_trans S.size ha
    · exact S.low q hq
  · rw [List.map_cons]
    refine List.nodup_cons.mpr ⟨fun hm=>?_,S.nd⟩
    obtain ⟨q,hq,e⟩:=List.mem_map.mp hm
    have : q.1 < s.heap.objs.size:=S.lt (p:=q.2) hq
    rw [e] at this
    exact Nat.lt_irrefl _ (Nat.lt_of_lt_of_le this ha)
structure Its (C:Cx) (prog:Program) (w:World) (A:Around) (it:Addr) (po:Nat→PO) (xs:List Value) (need:Led→Prop):Prop where
  next:∀ {i τ s Q E},need τ→Sat C ((it,po i)::τ) s→(xs[i]? = none→∀ s',Sat C τ s'→Q none s')→(∀ p v,xs[i]? = some p→er v = p→∀ s',Sat C ((it,po (i + 1))::τ) s'→Q (some v) s') →
    wpAny (model prog w) A (pyNext (.ref it)) Q E s
  self:∀ {i τ s Q E},Sat C ((it,po i)::τ) s→Q (.ref it) s→wpAny (model prog w) A (pyIter (.ref it)) Q E s
theorem itsL {l:Addr} {xs:List Value} (hh:A.handled = none):Its C prog w A it (itr l) xs (fun τ=>(l,.lst xs)∈τ) where
  next:=by
    intro i τ s Q E hl S h0 h1
    obtain ⟨oi,hoi,hci,hdi⟩:=S.get (.head _)
    have hIt:s.heap.IsListIter it l i:=⟨oi,hoi,hci,hdi⟩
    obtain ⟨its,hL,he⟩:=S.isList (.tail _ hl)
    have hlen:its.size = xs.length:=by rw [← he,List.length_map,Array.length_toList]
    cases hx:xs[i]? with
    | none =>
      refine wpAny_pyNext_list_end hh hIt hL ?_ fun h' hx'=>h0 hx _ (S.ext hx' _)
      rw [List.getElem?_eq_none_iff] at hx
      rw [Array.getElem?_eq_none_iff,hlen]; exact hx
    | some pv =>
      have hx':=hx
      rw [← he,List.getElem?_map] at hx'
      obtain ⟨v,hv,hpv⟩:=Option.map_eq_some_iff.mp hx'
      refine wpAny_pyNext_list_item hIt hL (x:=v) (by simpa using hv) fun h' hIt' hs=>?_
      obtain ⟨o',ho',hc',hd'⟩:=hIt'
      exact h1 pv v hx hpv _ (S.set (Upd.head (p':=itr l (i + 1))) hs ho' ⟨hc',hd'⟩ s.toks)
  self:=by
    intro i τ s Q E S h
    obtain ⟨oi,hoi,hci,hdi⟩:=S.get (.head _)
    exact wpAny_pyIter_listiter ⟨oi,hoi,hci,hdi⟩ h
noncomputable def sitr (x:Str) (t:Tok) (i:Nat):PO:=.prd fun o=>o.cls = .type "str_ascii_iterator" ∧ o.data = .fields #[.str x t,.int i 0]
theorem itsS {x:Str} {t:Tok} (hh:A.handled = none):Its C prog w A it (sitr x t) (x.cps.toList.map fun c=>.str ⟨#[c]⟩ 0) (fun _=>True) where
  next:=by
    intro i τ s Q E _ S h0 h1
    obtain ⟨oi,hoi,hci,hdi⟩:=S.get (.head _)
    have hIt:s.heap.IsStrIter it "str_ascii_iterator" x t i:=⟨oi,hoi,hci,hdi⟩
    cases hx:x.cps[i]? with
    | none =>
      refine wpAny_pyNext_ascii_end hh hIt hx fun h' hx'=>h0 ?_ _ (S.ext hx' _)
      rw [List.getElem?_map,Array.getElem?_toList,hx]; rfl
    | some c =>
      refine wpAny_pyNext_ascii_item hIt hx fun h' hIt' hs=>?_
      obtain ⟨o',ho',hc',hd'⟩:=hIt'
      have e:(x.cps.toList.map fun c=>Value.str ⟨#[c]⟩ 0)[i]? = some (.str ⟨#[c]⟩ 0):=by rw [List.getElem?_map,Array.getElem?_toList,hx]; rfl
      exact h1 _ (.str ⟨#[c]⟩ s.toks) e rfl _ (S.set (Upd.head (p':=sitr x t (i + 1))) hs ho' ⟨hc',hd'⟩ (s.toks + 1))
  self:=by
    intro i τ s Q E S h
    obtain ⟨oi,hoi,hci,hdi⟩:=S.get (.head _)
    exact wpAny_pyIter_striter_ascii ⟨oi,hoi,hci,hdi⟩ h
noncomputable def ritr (a step:Int) (n:Nat) (i:Nat):PO:=.prd fun o=>o = { cls:=.type "range_iterator", data:=.fields #[rawInt (a + step * i),rawInt ((n:Int) - i),rawInt step] }
theorem itsR {b step:Int} (hh:A.handled = none):Its C prog w A it (ritr b step n) ((List.range n).map fun (i:Nat)=>.int (b + step * i) 0) (fun _=>True) where
  next:=by
    intro i τ s Q E _ S h0 h1
    obtain ⟨oi,hoi,hd⟩:=S.get (.head _)
    have hIt:IsRangeIter s.heap it (b + step * i) ((n:Int) - i) step:=by
      have hd:oi = _:=hd
      subst hd; exact hoi
    by_cases hx:i < n
    · refine wpAny_pyNext_range_item hIt (by wtm_at "om") fun h' hIt' hs=>?_
      have e:((List.range n).map fun (i:Nat)=>Value.int (b + step * i) 0)[i]? = some (.int (b + step * i) 0):=by rw [List.getElem?_map,List.getElem?_range hx]; rfl
      have e1:b + step * (i:Int) + step = b + step * ((i + 1:Nat):Int):=by rw [Int.natCast_add,Int.mul_add,Int.add_assoc]; simp
      have e2:(n:Int) - i - 1 = n - ((i + 1:Nat):Int):=by wtm_at "om"
      refine h1 _ (.int (b + step * i) s.toks) e rfl _ (S.set (Upd.head (p':=ritr b step n (i + 1))) hs hIt' ?_ (s.toks + 1))
      show _ = _
      rw [e1,e2]
    · refine wpAny_pyNext_range_end hh hIt (by wtm_at "om") fun h' hx'=>h0 ?_ _ (S.ext hx' _)
      rw [List.getElem?_eq_none_iff,List.length_map,List.length_range]; wtm_at "om"
  self:=by
    intro i τ s Q E S h
    obtain ⟨oi,hoi,hd⟩:=S.get (.head _)
    have hd:oi = _:=hd
    subst hd
    exact wpAny_pyIter_rangeiter hoi h
noncomputable abbrev tests (ifs:List Expr) (env:Env):Sem Bool:=forIn ifs true fun c r=>if r = true then do let ok ← isTrue c env (eval c env); pure (ForInStep.yield ok) else pure (ForInStep.yield r)
theorem compRun {elt iter:Expr} {x:Str} {px:Pos} {ifs:List Expr} {scope:Scope} {pos:Pos} {cenv:Env} {R:Result→Shared→Prop} {po:Nat→PO} {xs:List Value} {need:Led→Prop} {D:Addr} {m:List (Str × Value)}
    (I:Its C prog w A it po xs need) (J:List Value→List Value→Led→Prop) (S:Sat C ((it,po 0)::(cenv.locals,.ns m)::(D,.lst [])::τ) s) (h0:J xs [] τ)
    (hn:∀ r ys τ,J r ys τ→need τ) (hsz:∀ r ys τ,J r ys τ→ys.length≤1000000) (hx:cenv.kindOf x = some .local) (hk:cenv.scope.kind = .function)
    (hneed:∀ q τ,need τ→need (q::τ):=by intro _ _ h; first | exact .tail _ h | exact h)
    (turn:∀ pv r ys τ i m s₁,J (pv::r) ys τ→Sat C ((it,po i)::(cenv.locals,.ns ((x,pv)::m))::(D,.lst ys)::τ) s₁→wpAny (model prog w) A (tests ifs cenv) (fun ok s₂ =>
      if ok = true then wpAny (model prog w) A (eval elt cenv) (fun y s₃=>∃ τ',J r (ys ++ [er y]) τ'∧Sat C ((it,po i)::(cenv.locals,.ns ((x,pv)::m))::(D,.lst ys)::τ') s₃) (fun _ _=>False) s₂
      else ∃ τ',J r ys τ'∧Sat C ((it,po i)::(cenv.locals,.ns ((x,pv)::m))::(D,.lst ys)::τ') s₂) (fun _ _=>False) s₁)
    (fin:∀ ys τ m s₁,J [] ys τ→Sat C ((cenv.locals,.ns m)::(D,.lst ys)::τ) s₁→R (.ok .next) s₁) :
    codeAny (model prog w) A (.compStart (.ListComp elt [⟨.Name x px,iter,ifs,0⟩] scope pos) 0 (.ref it) (.ref D) cenv) R s:=by
  have loop:codeAny (model prog w) A (.compLoop (.ListComp elt [⟨.Name x px,iter,ifs,0⟩] scope pos) 0 (.ref it) (.ref D) cenv) R s:=by
    refine codeAny_compLoop_tests (fun k s'=>∃ i r ys τ m,k + i = xs.length∧r = xs.drop i∧J r ys τ∧Sat C ((it,po i)::(cenv.locals,.ns m)::(D,.lst ys)::τ) s') ?_ xs.length ⟨0,xs,[],τ,m,rfl,rfl,h0,S⟩
    rintro k s' ⟨i,r,ys,τ,m,hk',rfl,hJ,S'⟩
    refine I.next (hneed _ _ (hneed _ _ (hn _ _ _ hJ))) S' (fun hx' s₁ S₁=>?_) fun pv v hpv hv s₁ S₁=>?_
    · rw [List.drop_eq_nil_iff.mpr (List.getElem?_eq_none_iff.mp hx')] at hJ
      exact fin _ _ _ _ hJ S₁
    · have hlt:i < xs.length:=(List.getElem?_eq_some_iff.mp hpv).1
      have hd:xs.drop i = pv::xs.drop (i + 1):=by
        rw [List.drop_eq_getElem_cons hlt,(List.getElem?_eq_some_iff.mp hpv).2]
      rw [hd] at hJ
      refine wpAny_assign_Name (stL S₁ (.tail .head) hx hk fun s₂ S₂=>?_)
      rw [hv] at S₂
      refine wpAny_mono (turn pv _ ys τ (i + 1) m s₂ hJ S₂) (fun ok s₃ h₃=>?_) fun _ _ f=>f.elim
      cases ok with
      | false =>
        obtain ⟨τ',hJ',S₃⟩:=h₃
        exact ⟨k - 1,by wtm_at "om", i + 1,_,ys,τ',_,by wtm_at "om", rfl,hJ',S₃⟩
      | true =>
        refine wpAny_mono h₃ (fun y s₄ h₄=>?_) fun _ _ f=>f.elim
        obtain ⟨τ',hJ',S₄⟩:=h₄
        obtain ⟨its,nn,ho,he⟩:=S₄.lst (.tail _ (.tail _ (.head _)))
        have hl:ys.length≤1000000:=Nat.le_trans (by rw [List.length_append]; exact Nat.le_add_right _ _) (hsz _ _ _ hJ')
        refine append_at ho (fun h' hs hg => ?_) (by rw [sizeLine_eq]; have : its.size = ys.length := by rw [← he, List.length_map, Array.length_toList]
                                                     wtm_at "om")
        refine ⟨k - 1,by wtm_at "om", i + 1,_,ys ++ [er y],τ',_,by wtm_at "om", rfl,hJ',S₄.set (Upd.tail (Upd.tail (Upd.head (p':=.lst (ys ++ [er y]))))) hs hg ⟨_,_,rfl,?_⟩ s₄.toks⟩
        rw [Array.toList_push,List.map_append,he]; rfl
  exact codeAny_compStart_list loop (I.self S loop)
theorem forIt {target:Expr} {body:List Stmt} {env:Env} {R:Flow→Shared→Prop} {Er:Value→Shared→Prop} {po:Nat→PO} {xs:List Value} {need:Led→Prop}
    (I:Its C prog w A it po xs need) (J:List Value→Led→Prop) (S:Sat C ((it,po 0)::τ) s) (h0:J xs τ) (hn:∀ r τ,J r τ→need τ)
    (turn:∀ v r τ i s₁,J (er v::r) τ→Sat C ((it,po i)::τ) s₁→wpAny (model prog w) A (assign target env v) (fun _ s₂=>wpAny (model prog w) A (execs body env) (fun fl s₃=>match fl with
        | .next | .cont=>∃ τ',J r τ'∧Sat C ((it,po i)::τ') s₃
        | .brk=>R .next s₃
        | .ret v=>R (.ret v) s₃) (fun _ _=>False) s₂) (fun _ _=>False) s₁)
    (fin:∀ τ s₁,J [] τ→Sat C τ s₁→R .next s₁) (ht:∀ it v,letOwnedTupleGo target it v = pure ():=by intro _ _; rfl) :
    codeAny (model prog w) A (.forLoop target (.ref it) body [] env) (fun r s'=>match r with | .ok f=>R f s' | .error e=>Er e s') s:=by
  refine codeAny_forLoop (fun k s'=>∃ i r τ,k + i = xs.length∧r = xs.drop i∧J r τ∧Sat C ((it,po i)::τ) s') ?_ xs.length ⟨0,xs,τ,rfl,rfl,h0,S⟩ (fun v=>ht _ _)
  rintro k s' ⟨i,r,τ,hk,rfl,hJ,S'⟩
  refine I.next (hn _ _ hJ) S' (fun hx' s₁ S₁=>?_) fun pv v hpv hv s₁ S₁=>?_
  · rw [List.drop_eq_nil_iff.mpr (List.getElem?_eq_none_iff.mp hx')] at hJ
    exact wpAny_execs_nil (fin _ _ hJ S₁)
  · have hlt:i < xs.length:=(List.getElem?_eq_some_iff.mp hpv).1
    have hd:xs.drop i = pv::xs.drop (i + 1):=by
      rw [List.drop_eq_getElem_cons hlt,(List.getElem?_eq_some_iff.mp hpv).2]
    rw [hd,← hv] at hJ
    refine wpAny_mono (turn v _ τ (i + 1) _ hJ S₁) (fun _ s₂ h₂=>wpAny_mono h₂ (fun fl s₃ h₃=>?_) fun _ _ h=>h.elim) fun _ _ h=>h.elim
    cases fl with
    | next=>obtain ⟨τ',hJ',S₃⟩:=h₃; exact ⟨k - 1,by wtm_at "om", i + 1,_,τ',by wtm_at "om", rfl,hJ',S₃⟩
    | cont=>obtain ⟨τ',hJ',S₃⟩:=h₃; exact ⟨k - 1,by wtm_at "om", i + 1,_,τ',by wtm_at "om", rfl,hJ',S₃⟩
    | brk=>exact h₃
    | ret v=>exact h₃
theorem iterL {l:Addr} {xs:List Value} {Q:Value→Shared→Prop} (S:Sat C σ s) (hl:(l,.lst xs)∈σ) (h:∀ it s',Sat C ((it,itr l 0)::σ) s'→Q (.ref it) s'):wpAny (model prog w) A (pyIter (.ref l)) Q E s:=by
  obtain ⟨its,hL,he⟩:=S.isList hl
  exact wpAny_pyIter_list hL (h _ _ (S.push (p:=itr l 0) (o:={ cls:=.type "list_iterator", data:=.fields #[.ref l,.int 0 0] }) ⟨rfl,rfl⟩ rfl s.toks))
theorem iterS {x:Str} {t:Tok} {Q:Value→Shared→Prop} (S:Sat C σ s) (ha:x.cps.all (· < 128) = true) (h:∀ it s',Sat C ((it,sitr x t 0)::σ) s'→Q (.ref it) s'):wpAny (model prog w) A (pyIter (.str x t)) Q E s :=
  wpAny_pyIter_ascii ha (h _ _ (S.push (p:=sitr x t 0) (o:={ cls:=.type "str_ascii_iterator", data:=.fields #[.str x t,.int 0 0] }) ⟨rfl,rfl⟩ rfl s.toks))
end
section
variable {prog:Program} {w:World} {A:Around} {E:Value→Shared→Prop} {C:Cx} {σ σ' τ:Led} {s:Shared} {n:Nat} {a it l b:Addr} {p:PO} {o:Obj} {env:Env} {Q:Value→Shared→Prop} {xs ys:List Value}
theorem mapSeq_at {its:Array Value} {n:Nat} (f:Array Value→Array Value):∃ k,Obj.mapSeq f { cls:=.type "list", data:=.seq its n } = { cls:=.type "list", data:=.seq (f its) k }:=⟨_,rfl⟩
theorem lst_of {its:Array Value} {k:Nat} (h:its.toList.map er = xs):(PO.lst xs).Of { cls:=.type "list", data:=.seq its k }:=⟨its,k,rfl,h⟩
theorem lst_len {its:Array Value} (h:its.toList.map er = xs):its.size = xs.length:=by rw [← h,List.length_map,Array.length_toList]
theorem map_erase {α β:Type} (f:α→β) (l:List α) (k:Nat):(l.eraseIdx k).map f = (l.map f).eraseIdx k:=by
  simp only [List.eraseIdx_eq_take_drop_succ,List.map_append,List.map_take,List.map_drop]
theorem evL {elts:List Expr} {pos:Pos} (_S:Sat C σ s) (h:wpAny (model prog w) A (spliced (backTo pos (starEach elts env))) (fun vs s₁=>∃ σ',Sat C σ' s₁∧vs.length≤1000∧∀ D s',Sat C ((D,.lst (vs.map er))::σ') s'→Q (.ref D) s') E s) :
    wpAny (model prog w) A (eval (.List elts pos) env) Q E s:=by
  refine wpAny_List (wpAny_mono h (fun vs s₁ h₁=>?_) fun _ _ e=>e)
  obtain ⟨σ',S,hl,hq⟩:=h₁
  exact ⟨by rw [sizeLine_eq]; wtm_at "om", hq _ _ (S.push (lst_of rfl) rfl s₁.toks)⟩
theorem evT {elts:List Expr} {k:Nat} {pos:Pos} (_S:Sat C σ s) (h:wpAny (model prog w) A (spliced (backTo pos (starEach elts env))) (fun vs s₁=>∃ σ',Sat C σ' s₁∧vs.length≤1000∧∀ D s',Sat C ((D,.tup (vs.map er))::σ') s'→Q (.ref D) s') E s) :
    wpAny (model prog w) A (eval (.Tuple elts k pos) env) Q E s:=by
  refine wpAny_Tuple (wpAny_mono h (fun vs s₁ h₁=>?_) fun _ _ e=>e)
  obtain ⟨σ',S,hl,hq⟩:=h₁
  exact ⟨by rw [sizeLine_eq]; wtm_at "om", hq _ _ (S.push (p:=.tup _) ⟨vs.toArray,0,rfl,rfl⟩ rfl s₁.toks)⟩
theorem gmL {name:Str} {id:String} {pl:Sem Bool} {Q:Value × List Value→Shared→Prop} (slot:Slot "list" name id) (hty:typeOf (.builtin id) = pure (.type "method_descriptor")) (S:Sat C σ s) (hl:(l,.lst xs)∈σ) (h:Q (.builtin id,[.ref l]) s) :
    wpAny (model prog w) A (getMethod (.ref l) name pl) Q E s:=by
  obtain ⟨its,n,ho,he⟩:=S.lst hl
  exact getMethod_list_of slot hty ⟨_,ho,rfl,n,rfl⟩ ⟨_,ho,rfl⟩ h
theorem appendS {v:Value} (S:Sat C σ s) (U:Upd l (.lst xs) (.lst (xs ++ [er v])) σ σ') (hz:xs.length≤1000000) (h:∀ s',Sat C σ' s'→Q .none s'):wpAny (model prog w) A (call (.builtin "list.append") [.ref l,v]) Q E s:=by
  obtain ⟨its,n,ho,he⟩:=S.lst U.mem
  refine append_at ho (fun h' hs hg=>h _ (S.set U hs hg (lst_of ?_) s.toks)) (by have:=lst_len he; rw [sizeLine_eq]; wtm_at "om")
  rw [Array.toList_push,List.map_append,he]; rfl
theorem popS {v:Value} (S:Sat C σ s) (U:Upd l (.lst (xs ++ [v])) (.lst xs) σ σ') (hz:xs.length≤1000000) (h:∀ s',Sat C σ' s'→Vs v (fun v=>Q v s')):wpAny (model prog w) A (call (.builtin "list.pop") [.ref l]) Q E s:=by
  obtain ⟨its,n,ho,he⟩:=S.lst U.mem
  have hn:=lst_len he
  rw [List.length_append] at hn
  have hn:its.size = xs.length + 1:=hn
  have h1:its.size - 1 = xs.length:=by rw [hn]; rfl
  have hk:its.size - 1 < its.size:=by rw [h1,hn]; exact Nat.lt_succ_self _
  obtain ⟨y,hy⟩:∃ y,its[its.size - 1]? = some y:=⟨_,Array.getElem?_eq_getElem hk⟩
  have e1:er y = v:=by
    have : (its.toList.map er)[its.size - 1]? = some (er y):=by rw [List.getElem?_map,Array.getElem?_toList,hy]; rfl
    rw [he,h1,List.getElem?_append_right (Nat.le_refl _),Nat.sub_self] at this
    exact (Option.some.inj this).symm
  refine call_meets PySem.F.slot_list_pop ⟨_,ho,rfl⟩ PySem.F.entry_list_pop (PySem.F.args_list_pop_1 _) (MeetsSeq.list_pop_last l its n y hy (by rw [sizeLine_eq]; wtm_at "om")) ⟨ho,?_⟩
  refine (h _ (S.upd U ho ?_ ?_ s.toks)).get e1
  · rw [mapSeq_erase _ _ _ hk]
    refine lst_of ?_
    rw [map_erase,he,h1,List.eraseIdx_append_of_length_le (Nat.le_refl _),Nat.sub_self]
    simp
  · rw [mapSeq_erase _ _ _ hk]; rfl
theorem addL (S:Sat C σ s) (hl:(l,.lst xs)∈σ) (hb:(b,.lst ys)∈σ) (hz:xs.length + ys.length≤1000000) (h:∀ D s',Sat C ((D,.lst (xs ++ ys))::σ) s'→Q (.ref D) s'):wpAny (model prog w) A (binaryOp .Add (.ref l) (.ref b)) Q E s:=by
  obtain ⟨its,n,ho,he⟩:=S.lst hl
  obtain ⟨its2,n2,ho2,he2⟩:=S.lst hb
  have h1:=lst_len he
  have h2:=lst_len he2
  refine concat_meets ⟨_,ho,rfl⟩ ⟨_,ho2,rfl⟩ noFill_list_add seq_list_add PySem.F.slot_list_add PySem.F.entry_list_add (PySem.F.args_list_add_2 _ _) (list_addW l b its its2 n n2 none none #[] #[] (by rw [sizeLine_eq]; wtm_at "om")) ⟨ho,ho2,?_⟩
  refine h _ _ (S.push (lst_of ?_) rfl s.toks)
  rw [Array.toList_append,List.map_append,he,he2]
noncomputable abbrev txts (l:List Str):List Value:=l.map fun x=>.str x 0
noncomputable def txtOf:Value→Str | .str x _=>x | _=>Str.empty
theorem er_str {v:Value} {x:Str} (h:er v = .str x 0):∃ t,v = .str x t:=by
  cases v with
  | str y t=>exact ⟨t,by injection h with h; rw [h]⟩
  | _=>cases h
theorem lenL (S:Sat C σ s) (hl:(l,.lst xs)∈σ) (hz:xs.length≤1000000) (h:∀ t s',Sat C σ s'→Q (.int xs.length t) s'):wpAny (model prog w) A (call (.builtin "len") [.ref l]) Q E s:=by
  obtain ⟨its,hL,he⟩:=S.isList hl
  refine call_len_list hL (by rw [lst_len he]; wtm_at "om") ?_
  rw [lst_len he]
  exact h _ _ (S.tok _)
theorem lenT {x:Str} {t:Tok} (S:Sat C σ s) (hz:x.length≤1000000) (h:∀ t s',Sat C σ s'→Q (.int x.length t) s'):wpAny (model prog w) A (call (.builtin "len") [.str x t]) Q E s :=
  len_str (by wtm_at "om") (h _ _ (S.tok _))
end
section
variable {M:Model} {prog:Program} {w:World} {A:Around} {c:Code} {fs:List Frame} {s:Shared} {P:End→Shared→Prop}
theorem sx_wrap {α:Type} {m:Sem α} {K:α→Sem Fin} {H:Value→Sem Fin} {gd:Bool→Bool} {lv:List Value→List Value}
    (h:wpAny M (A.over c fs) m (fun a s'=>SegX M A c (K a) fs s' P) (fun x s'=>SegX M A c (H x) fs s' P) s):SegX M A c (m.wrap K H gd lv) fs s P:=by
  rintro Γ p rfl hΓ
  exact runs_wrap_of_wp (Φ:=fun e s'=>e.quiet = true∧P e s') K H gd lv m (h (Γ.over fs) p (hΓ.over fs)) (fun a p' s' h'=>h' Γ p' rfl hΓ) (fun x p' s' h'=>h' Γ p' rfl hΓ)
theorem sx_bind {α:Type} {m:Sem α} {K:α→Sem Fin}
    (h:wpAny M (A.over c fs) m (fun a s'=>SegX M A c (K a) fs s' P) (fun x s'=>SegX M A c (.raise x) fs s' P) s):SegX M A c (m >>= K) fs s P:=by
  rw [Sem.bind_eq_wrap']; exact sx_wrap h
theorem sx_bw {α β:Type} {m:Sem α} {f:α→Sem β} {K:β→Sem Fin} {H:Value→Sem Fin} {gd:Bool→Bool} {lv:List Value→List Value}
    (h:wpAny M (A.over c fs) m (fun a s'=>SegX M A c ((f a).wrap K H gd lv) fs s' P) (fun x s'=>SegX M A c (H x) fs s' P) s):SegX M A c ((m >>= f).wrap K H gd lv) fs s P:=by
  rw [Sem.bind_eq_wrap',Sem.wrap_wrap]; exact sx_wrap h
end
noncomputable def Cx.withG (C:Cx) (g:Nat) (gs:GenState):Cx:={ C with gl:=(g,gs)::C.gl }
section
variable {prog:Program} {w:World} {A:Around} {E:Value→Shared→Prop} {C:Cx} {σ τ:Led} {s:Shared} {g:Nat} {gs gs':GenState}
theorem Sat.noG (S:Sat (C.withG g gs) σ s):Sat C σ s:=⟨S.old,S.stat,S.led,S.low,S.nd,S.os,S.gens,fun p hp=>S.gl p (.tail _ hp),S.tk,S.lam⟩
theorem Sat.gOf (S:Sat (C.withG g gs) σ s):s.gens[g]? = some gs:=S.gl _ (.head _)
theorem Sat.setG (S:Sat (C.withG g gs) σ s) (hf:∀ p∈C.gl,p.1 ≠ g) (hb:gs'.bare = true):Sat (C.withG g gs') σ (s.setGen g gs'):=by
  have hg:=S.gOf
  have lt:g < s.gens.size:=(Array.getElem?_eq_some_iff.mp hg).1
  refine ⟨S.old,S.stat,S.led,S.low,S.nd,S.os,fun y hy=>?_,fun p hp=>?_,S.tk,S.lam⟩
  · obtain ⟨i,hi,rfl⟩:=Array.mem_iff_getElem.mp hy
    unfold Shared.setGen at hi ⊢
    show ((s.gens.setIfInBounds g gs')[i]'hi).bare = true
    by_cases e:g = i
    · subst e; rw [Array.getElem_setIfInBounds_self]; exact hb
    · rw [Array.getElem_setIfInBounds_ne (by simpa using hi) e]; exact S.gens _ (Array.getElem_mem _)
  · rcases List.mem_cons.mp hp with rfl | hp
    · show (s.gens.setIfInBounds g gs')[g]? = _
      rw [Array.getElem?_setIfInBounds_self_of_lt lt]
    · show (s.gens.setIfInBounds g gs')[p.1]? = _
      rw [Array.getElem?_setIfInBounds_ne (hf p hp).symm]
      exact S.gl p (.tail _ hp)
noncomputable def EPost (prog:Program) (w:World) (A:Around) (need:Cx→Led→Prop) (g:Nat):List Value→Cx→Led→End→Shared→Prop
  | [],C,τ,e,s=>e = .ret (.ok (.ret .none))∧Sat (C.withG g .running) τ s
  | x::xs,C,τ,e,s=>∃ v l k c p fs own,e = .susp v false l k c p fs∧er v = x∧Sat (C.withG g .running) (own ++ τ) s ∧
      ∀ C τ s,need C τ→Sat (C.withG g .running) (own ++ τ) s→SegX (model prog w) A c (k (.send .none)) fs s (EPost prog w A need g xs C τ)
noncomputable def Emits (prog:Program) (w:World) (A:Around) (need:Cx→Led→Prop) (g:Nat) (xs:List Value) (own:Led) (c:Code) (t:Sem Fin) (fs:List Frame):Prop :=
  ∀ C τ s,need C τ→Sat (C.withG g .running) (own ++ τ) s→SegX (model prog w) A c t fs s (EPost prog w A need g xs C τ)
noncomputable def GOf (prog:Program) (w:World) (A:Around) (need:Cx→Led→Prop) (g:Nat) (xs:List Value) (own:Led) (gs:GenState):Prop:=match gs with
  | .fresh c=>Emits prog w A need g xs own c (denote table c) []
  | .suspended k _ c _ fs _=>Emits prog w A need g xs own c (k (.send .none)) fs
  | _=>False
theorem nextG {a:Addr} {need:Cx→Led→Prop} {xs:List Value} {own:Led} {Q:Option Value→Shared→Prop} {go:PO} (hgo:∀ o,go.Of o→∃ nm qn,o.cls = .type "generator" ∧ o.data = .fields #[.int g 0,nm,qn]∧o.slots = #[])
    (G:GOf prog w A.in1 need g xs own gs) (S:Sat (C.withG g gs) (own ++ (a,go)::τ) s) (hf:∀ p∈C.gl,p.1 ≠ g) (hn:need C ((a,go)::τ)) (hh:A.handled = none) (hroom:A.depth < recursionLimit)
    (h0:xs = []→∀ s',Sat C ((a,go)::τ) s'→Q none s') (h1:∀ v x xs' own' gs',xs = x::xs'→er v = x→GOf prog w A.in1 need g xs' own' gs'→∀ s',Sat (C.withG g gs') (own' ++ (a,go)::τ) s'→Q (some v) s') :
    wpAny (model prog w) A (pyNext (.ref a)) Q E s:=by
  obtain ⟨o,ho,hp⟩:=S.get (List.mem_append_right _ (.head _))
  obtain ⟨nm,qn,hc,hd,hsl⟩:=hgo o hp
  have hg:s.heap.IsGen a g:=⟨o,nm,qn,ho,hc,hd,hsl⟩
  unfold pyNext
  refine wpAny_bind (wpAny_attempt (wpAny_callSpecial?_slot (name:=Str.ofString "__next__") hg.typeIs slot_gen_next
    (wpAny_call_entry slot_gen_next hg.typeIs entry_gen_next ?_ (args_gen_next _))))
  show wpAny _ A.in1 (Builtin.Generator.genWake (.ref a) (.send .none)) _ _ s
  unfold Builtin.Generator.genWake
  refine wpAny_bind (wpAny_holding (wpAny_genNumber hg (wpAny_bind (wpAny_genState S.gOf ?_))))
  have S':=S.setG (gs':=.running) hf rfl
  have fin:∀ (k:GenResult→Sem Fin) (Q':Fin→Shared→Prop) (E':Value→Shared→Prop) (e:End) (s₁:Shared),e.quiet = true→EPost prog w A.in1 need g xs C ((a,go)::τ) e s₁ →
      (xs = []→∀ s',Sat C ((a,go)::τ) s'→wpAny (model prog w) A.in1 (k (.returned .none)) Q' E' s') →
      (∀ v x xs' own' gs',xs = x::xs'→er v = x→GOf prog w A.in1 need g xs' own' gs'→∀ s',Sat (C.withG g gs') (own' ++ (a,go)::τ) s'→wpAny (model prog w) A.in1 (k (.yielded v)) Q' E' s') →
      wpAny (model prog w) A.in1 (k e.result) Q' E' (s₁.setGen g e.genState):=by
    intro k Q' E' e s₁ hq hE k0 k1
    cases xs with
    | nil =>
      obtain ⟨rfl,S₁⟩:=hE
      exact k0 rfl _ (S₁.setG hf rfl).noG
    | cons x xs =>
      obtain ⟨v,l,kk,c,p,fs,own',rfl,hv,S₁,hG⟩:=hE
      exact k1 v x xs own' (End.genState (.susp v false l kk c p fs)) rfl hv hG _ (S₁.setG hf (End.bare_of_quiet hq))
  have tail:∀ (Q':Fin→Shared→Prop) (E':Value→Shared→Prop) (k:GenResult→Sem Fin) c₀ t₀ fs₀,
      ((gs = .fresh c₀∧Resume.send .none = Resume.send .none∧t₀ = denote table c₀∧fs₀ = []) ∨ (∃ k₀ l₀ p₀ cl,gs = .suspended k₀ l₀ c₀ p₀ fs₀ cl∧t₀ = k₀ (.send .none)))→Emits prog w A.in1 need g xs own c₀ t₀ fs₀ →
      (xs = []→∀ s',Sat C ((a,go)::τ) s'→wpAny (model prog w) A.in1 (k (.returned .none)) Q' E' s') →
      (∀ v x xs' own' gs',xs = x::xs'→er v = x→GOf prog w A.in1 need g xs' own' gs'→∀ s',Sat (C.withG g gs') (own' ++ (a,go)::τ) s'→wpAny (model prog w) A.in1 (k (.yielded v)) Q' E' s') →
      wpAny (model prog w) A.in1 (.resume g (.send .none) [] k) Q' E' s:=by
    intro Q' E' k c₀ t₀ fs₀ hgs hE k0 k1
    refine wake_any _ prog w S.gOf hgs (fun Γ=>Γ.In A.in1) (fun _ h=>h) ?_
    intro Γ p hc hΓ
    obtain ⟨e,s',hr,hq,hp⟩:=hE C _ _ hn S' Γ p hc hΓ
    exact ⟨e,s',hr,hq,fun Γ' p' h'=>fin k Q' E' e s' hq hp k0 k1 Γ' p' h'⟩
  have stop:∀ (K:PUnit→Sem Fin) (Q':Fin→Shared→Prop) (E':Value→Shared→Prop) (s₁:Shared),Sat C ((a,go)::τ) s₁→(∀ e s₂,s₂.TypeIs e "StopIteration" → Sat C ((a,go)::τ) s₂→E' e s₂) →
      wpAny (model prog w) A.in1 (newExc (Value.type "StopIteration") [] >>= fun x=>raiseNew x >>= K) Q' E' s₁:=by
    intro K Q' E' s₁ S₁ hE
    refine wpAny_bind ?_
    simp only [newExc,newTuple]
    refine wpAny_bind (wpAny_newObj_type ?_ (by size_fits))
    refine wpAny_bind (m:=firstArgMember _ _) (wpAny_of_eq (a:=Value.none) (by first | rfl | (simp only [firstArgMember]; rfl)) ?_)
    refine wpAny_newObj_type ?_ (by size_fits)
    show wpAny _ _ ((handled >>= _) >>= _) _ _ _
    refine wpAny_bind (wpAny_bind (wpAny_handled ?_))
    rw [show A.in1.handled = none from hh]
    refine wpAny_throw (hE _ _ ⟨_,Heap.get?_push_size _ rfl,rfl⟩ ((S₁.push0 _ s₁.toks).push0 _ s₁.toks))
  cases gs with
  | running=>exact G.elim
  | finished=>exact G.elim
  | fresh c =>
    refine wpAny_bind (wpAny_roomToWake S.lim hroom ?_)
    show wpAny _ A.in1 (.resume g (.send .none) [] _) _ _ s
    refine tail _ _ _ _ _ _ (.inl ⟨rfl,rfl,rfl,rfl⟩) G (fun hx s' S₁=>?_) fun v x xs' own' gs' e e2 G' s' S₁=>?_
    · refine wpAny_bind (wpAny_pure ?_)
      show wpAny _ _ (newExc (.type "StopIteration") [] >>= _) _ _ _
      refine stop _ _ _ s' S₁ fun e s₂ hT S₂=>?_
      refine wpAny_bind (wpAny_isInstance (T := "StopIteration") (b:=true) hT isSubtype_stop ?_)
      exact wpAny_pure (h0 hx _ S₂)
    · exact wpAny_pure ⟨v,rfl,wpAny_pure (h1 v x xs' own' gs' e e2 G' s' S₁)⟩
  | suspended k l c p fs cl =>
    refine wpAny_bind (wpAny_roomToWake S.lim hroom ?_)
    show wpAny _ A.in1 (.resume g (.send .none) [] _) _ _ s
    refine tail _ _ _ _ _ _ (.inr ⟨k,l,p,cl,rfl,rfl⟩) G (fun hx s' S₁=>?_) fun v x xs' own' gs' e e2 G' s' S₁=>?_
    · refine wpAny_bind (wpAny_pure ?_)
      show wpAny _ _ (newExc (.type "StopIteration") [] >>= _) _ _ _
      refine stop _ _ _ s' S₁ fun e s₂ hT S₂=>?_
      refine wpAny_bind (wpAny_isInstance (T := "StopIteration") (b:=true) hT isSubtype_stop ?_)
      exact wpAny_pure (h0 hx _ S₂)
    · exact wpAny_pure ⟨v,rfl,wpAny_pure (h1 v x xs' own' gs' e e2 G' s' S₁)⟩
theorem owned_gen {a:Addr} {target:Expr} {v:Value} {go:PO} {Q:Unit→Shared→Prop} (hgo:∀ o,go.Of o→∃ nm qn,o.cls = .type "generator" ∧ o.data = .fields #[.int g 0,nm,qn]∧o.slots = #[])
    (S:Sat C σ s) (ha:(a,go)∈σ) (h:Q () s):wpAny (model prog w) A (letOwnedTupleGo target (.ref a) v) Q E s:=by
  obtain ⟨o,ho,hp⟩:=S.get ha
  obtain ⟨nm,qn,h1,h2,h3⟩:=hgo o hp
  have key:∀ r,wpAny (model prog w) A (do
      let o ← load a
      match o.cls,o.data with
      | .type n,.fields vs =>
        if ["enumerate", "zip", "dict_itemiterator", "dict_reverseitemiterator", "odict_iterator", "itertools.zip_longest", "itertools.pairwise"].contains n && vs[0]? == some (rawInt r) then
          rule "for.unpacks-the-owned-tuple"
          updateField a 0 .none
      | _,_=>pure ():Sem Unit) Q E s:=by
    intro r
    refine wpAny_bind (wpAny_load ho ?_)
    rw [h1,h2]
    dsimp only
    rw [if_neg (by simp)]
    exact wpAny_pure h
  unfold letOwnedTupleGo
  cases target <;> first | exact wpAny_pure h | (cases v <;> first | exact wpAny_pure h | exact key _)
theorem forGen {a:Addr} {target:Expr} {body:List Stmt} {env:Env} {R:Flow→Shared→Prop} {Er:Value→Shared→Prop} {need:Cx→Led→Prop} {xs:List Value} {own:Led} {go:PO}
    (hgo:∀ o,go.Of o→∃ nm qn,o.cls = .type "generator" ∧ o.data = .fields #[.int g 0,nm,qn]∧o.slots = #[])
    (hh:A.handled = none) (hroom:A.depth < recursionLimit) (hf:∀ p∈C.gl,p.1 ≠ g)
    (G:GOf prog w A.in1 need g xs own gs) (J:List Value→Led→Prop) (S:Sat (C.withG g gs) (own ++ (a,go)::τ) s) (h0:J xs τ) (hn:∀ r τ,J r τ→need C ((a,go)::τ))
    (turn:∀ gs' own' v r τ s₁,J (er v::r) τ→Sat (C.withG g gs') ((a,go)::(τ ++ own')) s₁→wpAny (model prog w) A (assign target env v) (fun _ s₂=>wpAny (model prog w) A (execs body env) (fun fl s₃=>match fl with
        | .next | .cont=>∃ τ',J r τ'∧Sat (C.withG g gs') ((a,go)::(τ' ++ own')) s₃
        | .brk=>R .next s₃
        | .ret v=>R (.ret v) s₃) (fun _ _=>False) s₂) (fun _ _=>False) s₁)
    (fin:∀ τ s₁,J [] τ→Sat C ((a,go)::τ) s₁→R .next s₁) :
    codeAny (model prog w) A (.forLoop target (.ref a) body [] env) (fun r s'=>match r with | .ok f=>R f s' | .error e=>Er e s') s:=by
  refine codeAny_forLoop_any (fun k s'=>∃ r τ own gs,k = r.length∧J r τ∧GOf prog w A.in1 need g r own gs∧Sat (C.withG g gs) (own ++ (a,go)::τ) s') ?_ xs.length ⟨xs,τ,own,gs,rfl,h0,G,S⟩
  rintro k s' ⟨r,τ,own,gs,rfl,hJ,G,S'⟩
  refine nextG hgo G S' hf (hn _ _ hJ) hh hroom (fun hx s₁ S₁=>?_) fun v x r' own' gs' hx hv G' s₁ S₁=>?_
  · subst hx
    exact wpAny_execs_nil (fin _ _ hJ S₁)
  · subst hx; subst hv
    refine owned_gen hgo S₁ (List.mem_append_right _ (.head _)) ?_
    refine wpAny_mono (turn gs' own' v r' τ s₁ hJ (S₁.perm (List.perm_append_comm))) (fun _ s₂ h₂=>wpAny_mono h₂ (fun fl s₃ h₃=>?_) fun _ _ h=>h.elim) fun _ _ h=>h.elim
    cases fl with
    | next=>obtain ⟨τ',hJ',S₃⟩:=h₃; exact ⟨r'.length,by simp,r',τ',own',gs',rfl,hJ',G',S₃.perm (List.perm_append_comm (l₁:=(a,go)::τ'))⟩
    | cont=>obtain ⟨τ',hJ',S₃⟩:=h₃; exact ⟨r'.length,by simp,r',τ',own',gs',rfl,hJ',G',S₃.perm (List.perm_append_comm (l₁:=(a,go)::τ'))⟩
    | brk=>exact h₃
    | ret v=>exact h₃
theorem Emits.step {need:Cx→Led→Prop} {xs:List Value} {own:Led} {c:Code} {t:Sem Fin} {fs:List Frame}
    (h:∀ C τ s,need C τ→Sat (C.withG g .running) (own ++ τ) s→∀ P,(∀ own' c' t' fs' s',Emits prog w A need g xs own' c' t' fs'→Sat (C.withG g .running) (own' ++ τ) s'→SegX (model prog w) A c' t' fs' s' P)→SegX (model prog w) A c t fs s P) :
    Emits prog w A need g xs own c t fs:=fun C τ s hn S=>h C τ s hn S _ fun _ _ _ _ s' E S'=>E C τ s' hn S'
section
variable {it l:Addr} {xs r rest:List Value} {own:Led} {need:Cx→Led→Prop} {c₁:Code} {fs:List Frame} {k:Result→Sem Fin} {hd:Option Value} {gd:Bool} {lv:List Value} {p:Pos}
theorem listClose:typeLookup (.type "list_iterator") "close" = pure none:=by rw [typeLookup_type,builtinLookup_eq_fast]; kernel_rfl
theorem lnextE {i:Nat} {Q:Option Value→Shared→Prop} {C:Cx} {σ:Led} (S:Sat C ((it,itr l i)::σ) s) (hl:(l,.lst xs)∈(it,itr l i)::σ) (hx:xs[i]? = none) (hh:A.handled = none)
    (h:∀ e oe s' vs,Sat C σ s'→s'.heap.get? e = some oe→oe.cls = .type "StopIteration" → oe.data = .fields vs→vs[5]? = some .none→E (.ref e) s'):wpAny (model prog w) A (callSpecial? (.ref it) (Str.ofString "__next__")) Q E s:=by
  obtain ⟨oi,hoi,hci,hdi⟩:=S.get (.head _)
  obtain ⟨its,hL,he⟩:=S.isList hl
  have hxi:its[i]? = none:=by rw [Array.getElem?_eq_none_iff,lst_len he]; exact List.getElem?_eq_none_iff.mp hx
  refine wpAny_callSpecial?_slot (name:=Str.ofString "__next__") ⟨oi,hoi,hci⟩ slot_listiter_next
      (wpAny_call_entry slot_listiter_next ⟨oi,hoi,hci⟩ entry_listiter_next ?_ (args_listiter_next _))
  obtain ⟨ol,hol,_,nl,hdl⟩:=hL
  show wpAny _ _ (field (.ref it) 0 >>= _) _ _ s
  refine wpAny_bind (wpAny_field hoi hdi (x:=.ref l) rfl ?_)
  show wpAny _ _ (if (Value.ref l == Value.none) = true then _ else _) _ _ s
  rw [if_neg (show ¬ ((Value.ref l == Value.none) = true) from Bool.false_ne_true)]
  show wpAny _ _ (field (.ref it) 1 >>= _) _ _ s
  refine wpAny_bind (wpAny_field hoi hdi (x:=.int i 0) rfl ?_)
  show wpAny _ _ (seqItems? (.ref l) >>= _) _ _ s
  refine wpAny_bind (wpAny_seqItems hol hdl ?_)
  simp only [Int.toNat_natCast,hxi]
  refine wpAny_bind (wpAny_rule (wpAny_bind (wpAny_setField hoi hdi (by simp) ?_)))
  show wpAny _ _ (newExc (.type "StopIteration") [] >>= _) _ _ _
  refine wpAny_bind ?_
  simp only [newExc,newTuple]
  refine wpAny_bind (wpAny_newObj_type ?_ (by size_fits))
  refine wpAny_bind (m:=firstArgMember _ _) (wpAny_of_eq (a:=Value.none) (by first | rfl | (simp only [firstArgMember]; rfl)) ?_)
  refine wpAny_newObj_type ?_ (by size_fits)
  show wpAny _ _ (handled >>= _) _ _ _
  refine wpAny_bind (wpAny_handled ?_)
  rw [show A.in1.handled = none from hh]
  refine wpAny_bind (wpAny_pure (wpAny_throw ?_))
  exact h _ _ _ _ (((S.ext (Heap.SameBut.update ..).extBut s.toks).push0 _ s.toks).push0 _ s.toks) (Heap.get?_push_size _ rfl) rfl rfl rfl
theorem lnextI {i:Nat} {Q:Option Value→Shared→Prop} {C:Cx} {σ:Led} {x:Value} (S:Sat C ((it,itr l i)::σ) s) (hl:(l,.lst xs)∈(it,itr l i)::σ) (hx:xs[i]? = some x)
    (h:∀ v s',er v = x→Sat C ((it,itr l (i + 1))::σ) s'→Q (some v) s'):wpAny (model prog w) A (callSpecial? (.ref it) (Str.ofString "__next__")) Q E s:=by
  obtain ⟨oi,hoi,hci,hdi⟩:=S.get (.head _)
  obtain ⟨its,hL,he⟩:=S.isList hl
  have hx':=hx
  rw [← he,List.getElem?_map] at hx'
  obtain ⟨v,hv,hpv⟩:=Option.map_eq_some_iff.mp hx'
  have hxi:its[i]? = some v:=by simpa using hv
  refine wpAny_callSpecial?_slot (name:=Str.ofString "__next__") ⟨oi,hoi,hci⟩ slot_listiter_next
      (wpAny_call_entry slot_listiter_next ⟨oi,hoi,hci⟩ entry_listiter_next ?_ (args_listiter_next _))
  obtain ⟨ol,hol,_,nl,hdl⟩:=hL
  show wpAny _ _ (field (.ref it) 0 >>= _) _ _ s
  refine wpAny_bind (wpAny_field hoi hdi (x:=.ref l) rfl ?_)
  show wpAny _ _ (if (Value.ref l == Value.none) = true then _ else _) _ _ s
  rw [if_neg (show ¬ ((Value.ref l == Value.none) = true) from Bool.false_ne_true)]
  show wpAny _ _ (field (.ref it) 1 >>= _) _ _ s
  refine wpAny_bind (wpAny_field hoi hdi (x:=.int i 0) rfl ?_)
  show wpAny _ _ (seqItems? (.ref l) >>= _) _ _ s
  refine wpAny_bind (wpAny_seqItems hol hdl ?_)
  simp only [Int.toNat_natCast,hxi]
  refine wpAny_bind (wpAny_setField hoi hdi (by simp) (wpAny_pure ⟨v,rfl,h v _ hpv (S.set (Upd.head (p':=itr l (i + 1))) (Heap.SameBut.update ..)
    (Heap.get?_update_self _ hoi (Obj.isFreed_of_fields (Obj.data_mapFields hdi _))) ⟨(Obj.cls_mapFields ..).trans hci,?_⟩ s.toks)⟩))
  rw [Obj.data_mapFields hdi]; simp [rawInt]
theorem entry_yf:entryFor table "proto.yield_from" = some Builtin.«proto.yield_from»:=entryFor_of_tree (by kernel_rfl)
theorem den_of {id:String} {b:Builtin} (h:entryFor table id = some b) (a:Args):denote table (.builtin id a) = b a:=by
  show (match entryFor table id with | some b=>b a | none=>unsupported ((withoutEnding? id "#data").getD id)) = b a
  rw [h]
theorem den_yf (a:Args):denote table (.builtin "proto.yield_from" a) = Builtin.«proto.yield_from» a:=den_of entry_yf a
theorem plain_yf:plainId "proto.yield_from" = true:=by decide +kernel
theorem yf_list (hl:∀ C τ,need C τ→(l,.lst xs)∈τ) (hsp:splitAtGen (.ret k hd gd lv c₁ p []::fs) = none) (hgd:(Frame.ret k hd gd lv c₁ p []::fs).any Frame.guarded = false)
    (hh:(A.over (.builtin "proto.yield_from" ⟨[.ref it,.bool false,.none],[]⟩) (.ret k hd gd lv c₁ p []::fs)).handled = none)
    (hrest:Emits prog w A need g rest own c₁ (k (.ok (.ret .none))) fs) :
    ∀ n i,xs.length - i = n→Emits prog w A need g (xs.drop i ++ rest) ((it,itr l i)::own) (.builtin "proto.yield_from" ⟨[.ref it,.bool false,.none],[]⟩) (denote table (.builtin "proto.yield_from" ⟨[.ref it,.bool false,.none],[]⟩)) (.ret k hd gd lv c₁ p []::fs):=by
  intro n
  induction n with
  | zero =>
    intro i hi C τ s hn S
    rw [den_yf]
    unfold Builtin.«proto.yield_from»
    dsimp only
    have hx:xs[i]? = none:=List.getElem?_eq_none_iff.mpr (by wtm_at "om")
    rw [List.drop_eq_nil_iff.mpr (by wtm_at "om"),List.nil_append]
    refine sx_bind (wpAny_pure (sx_bind (wpAny_attempt (wpAny_holding ?_))))
    rw [if_neg Bool.false_ne_true,if_pos (show (Value.none == Value.none) = true from rfl)]
    refine wpAny_bind (wpAny_rule (wpAny_bind (lnextE S (by exact .tail _ (List.mem_append_right own (hl C τ hn))) hx hh fun e oe s₁ vs S₁ ho hc hd h5=>?_)))
    have hT:s₁.TypeIs (.ref e) "StopIteration" := ⟨oe,ho,hc⟩
    show SegX _ _ _ (Builtin.Generator.endsTheTurnAsAValue false (.ref e) >>= _) _ _ _
    refine sx_bind ?_
    unfold Builtin.Generator.endsTheTurnAsAValue Builtin.Generator.isStopAndMetaclass
    refine wpAny_bind (wpAny_bind (wpAny_typeOf hT ?_))
    refine wpAny_bind (wpAny_of_eq isSubtype_stop ?_)
    refine wpAny_bind (wpAny_of_eq (a:=Value.type "type") (by first | rfl | kernel_rfl) (wpAny_pure ?_))
    dsimp only
    rw [if_neg Bool.false_ne_true]
    refine wpAny_pure ?_
    rw [if_pos rfl,if_neg Bool.false_ne_true]
    refine sx_bind (wpAny_rule (sx_bind (wpAny_field ho hd h5 ?_)))
    exact s_pop prog w A _ _ _ _ (.ok (.ret .none)) _ rfl _ _ _ _ _ _ _ (hrest C τ s₁ hn S₁)
  | succ n ih =>
    intro i hi C τ s hn S
    rw [den_yf]
    unfold Builtin.«proto.yield_from»
    dsimp only
    have hlt:i < xs.length:=by wtm_at "om"
    rw [List.drop_eq_getElem_cons hlt,List.cons_append]
    refine sx_bind (wpAny_pure (sx_bind (wpAny_attempt (wpAny_holding ?_))))
    rw [if_neg Bool.false_ne_true,if_pos (show (Value.none == Value.none) = true from rfl)]
    refine wpAny_bind (wpAny_rule (wpAny_bind (lnextI S (by exact .tail _ (List.mem_append_right own (hl C τ hn))) (List.getElem?_eq_getElem hlt) fun v s₁ hv S₁=>?_)))
    obtain ⟨oi,hoi,hci,hdi⟩:=S₁.get (.head _)
    refine wpAny_pure ?_
    dsimp only
    refine sx_bind (wpAny_typeOf ⟨oi,hoi,hci⟩ ?_)
    dsimp only
    refine sx_bind (wpAny_of_eq listClose (sx_bind (wpAny_pure ?_)))
    have sl':∀ b (Q:Unit→Shared→Prop) E A s₂ (C:Cx) τ,Sat (C.withG g .running) ((it,itr l (i + 1))::own ++ τ) s₂→Q () s₂→wpAny (model prog w) A (Builtin.Generator.sleptOver (.ref it) b) Q E s₂:=by
      intro b Q E A s₂ C τ S₂ h
      obtain ⟨oi,hoi,hci,hdi⟩:=S₂.get (.head _)
      unfold Builtin.Generator.sleptOver
      refine wpAny_bind (wpAny_load hoi ?_)
      rw [hci]
      exact wpAny_pure h
    refine sx_bind (sl' _ _ _ _ _ _ _ S₁ ?_)
    show SegX _ _ _ (.yield v false [] _) _ _ _
    refine s_yield prog w A _ _ _ _ _ _ _ hsp hgd fun p'=>?_
    refine ⟨v,_,_,_,_,_,(it,itr l (i + 1))::own,rfl,hv,S₁,fun C' τ' s₂ hn' S₂=>?_⟩
    show SegX _ _ _ (Builtin.Generator.sleptOver (.ref it) false >>= _) _ _ _
    refine sx_bind (sl' _ _ _ _ _ _ _ S₂ ?_)
    refine sx_bind (wpAny_of_eq (a:=Value.none) rfl ?_)
    exact s_again prog w A _ _ _ _ _ (plainId_quiet plain_yf _) (ih (i + 1) (by wtm_at "om") C' τ' s₂ hn' S₂)
end
end
section
variable {prog:Program} {w:World} {A:Around} {E:Value→Shared→Prop} {C:Cx} {σ τ:Led} {s:Shared} {g:Nat} {it l:Addr} {xs:List Value} {env:Env}
theorem truthyL {Q:Bool→Shared→Prop} (S:Sat C σ s) (hl:(l,.lst xs)∈σ) (hz:xs.length≤1000000) (h:∀ s',Sat C σ s'→Q (!xs.isEmpty) s'):wpAny (model prog w) A (truthy (.ref l)) Q E s:=by
  obtain ⟨its,hL,he⟩:=S.isList hl
  have hn:=lst_len he
  refine wpAny_truthy_list hL (by rw [hn]; wtm_at "om") ?_
  have : (!its.isEmpty) = !xs.isEmpty:=by rw [← he]; cases its with | mk l=>cases l <;> rfl
  rw [this]
  exact h _ (S.tok _)
noncomputable def rvp (l:Addr) (n i:Nat):PO:=.prd fun o=>o.cls = .type "list_reverseiterator" ∧ o.data = .fields #[.ref l,rawInt ((n:Int) - 1 - i)]∧i≤n
theorem rv1 {n i:Nat} (h:i < n):(n:Int) - 1 - i = ((n - 1 - i:Nat):Int):=by wtm_at "om"
theorem rv2 {n i:Nat} (h:i < n):((n - 1 - i:Nat):Int) - 1 = (n:Int) - 1 - ((i + 1:Nat):Int):=by wtm_at "om"
theorem rv3 {n i:Nat} (h:i < n):n - 1 - i < n:=by wtm_at "om"
theorem rv4 {n i:Nat} (h:¬ i < n) (h2:i≤n):(n:Int) - 1 - i = -1:=by wtm_at "om"
theorem itsRv (hh:A.handled = none):Its C prog w A it (rvp l xs.length) xs.reverse (fun τ=>(l,.lst xs)∈τ) where
  next:=by
    intro i τ s Q E hl S h0 h1
    obtain ⟨oi,hoi,hci,hdi,hle⟩:=S.get (.head _)
    obtain ⟨its,hL,he⟩:=S.isList (.tail _ hl)
    have hn:=lst_len he
    by_cases hi:i < xs.length
    · have e1:=rv1 hi
      have e3:=rv3 hi
      have e4:xs.length - 1 - i < its.size:=hn ▸ e3
      have hIt:s.heap.IsRevIter it l ((xs.length - 1 - i:Nat):Int):=⟨oi,hoi,hci,by rw [← e1]; exact hdi⟩
      have hx:xs.reverse[i]? = some (xs[xs.length - 1 - i]'e3):=by
        rw [List.getElem?_reverse hi,List.getElem?_eq_getElem e3]
      obtain ⟨v,hv⟩:∃ v,its[xs.length - 1 - i]? = some v:=⟨_,Array.getElem?_eq_getElem e4⟩
      have e2:er v = xs[xs.length - 1 - i]'e3:=by
        have : (its.toList.map er)[xs.length - 1 - i]? = some (er v):=by rw [List.getElem?_map,Array.getElem?_toList,hv]; rfl
        rw [he,List.getElem?_eq_getElem e3] at this
        exact (Option.some.inj this).symm
      refine wpAny_pyNext_rev_item hIt hL hv fun h' hIt' hs=>?_
      obtain ⟨o',ho',hc',hd'⟩:=hIt'
      refine h1 _ v hx e2 _ (S.set (Upd.head (p':=rvp l xs.length (i + 1))) hs ho' ⟨hc',?_,hi⟩ s.toks)
      rw [hd',rv2 hi]
    · have hx:xs.reverse[i]? = none:=by rw [List.getElem?_eq_none_iff,List.length_reverse]; exact Nat.le_of_not_lt hi
      have e1:=rv4 hi hle
      exact wpAny_pyNext_rev_end hh ⟨oi,hoi,hci,by rw [← e1]; exact hdi⟩ fun h' hx'=>h0 hx _ (S.ext hx' _)
  self:=by
    intro i τ s Q E S h
    obtain ⟨oi,hoi,hci,hdi,_⟩:=S.get (.head _)
    exact wpAny_pyIter_revIter ⟨oi,hoi,hci,hdi⟩ h
section
variable {need:Cx→Led→Prop} {c₁:Code} {k:Result→Sem Fin} {hd:Option Value} {gd:Bool} {lv:List Value} {p:Pos} {n:Str} {pn pt pv py pe pi:Pos} {m₀:List (Str × Value)}
theorem gen_loop (cont:Value→List Value) (hl:∀ C τ,need C τ→(l,.lst xs)∈τ) (hc:∀ C τ,need C τ→∀ v∈xs,∃ a,v = .ref a∧(a,.lst (cont v))∈τ) (hz:∀ v,(cont v).length≤1000000)
    (hgd:gd = false) (hh:A.handled = none) (hk:env.scope.kind = .function) (hn:env.kindOf n = some .local) (hi:interactive env = false) (hdb:(n == ("__debug__" : Str)) = false) (hhd:hd = none)
    (hfin:∀ m,Emits prog w A need g [] [(env.locals,.ns m)] c₁ (k (.ok .next)) []) :
    ∀ r i m,xs.length - i = r→Emits prog w A need g ((xs.reverse.drop i).flatMap cont) [(it,rvp l xs.length i),(env.locals,.ns m)]
      (.forLoop (.Name n pn) (.ref it) [.If (.Name n pt) [.Expr (.YieldFrom (.Name n pv) py) pe] [] pi] [] env)
      (denote table (.forLoop (.Name n pn) (.ref it) [.If (.Name n pt) [.Expr (.YieldFrom (.Name n pv) py) pe] [] pi] [] env)) [.ret k hd gd lv c₁ p []]:=by
  subst hhd hgd
  intro r
  have hA:(A.over (.forLoop (.Name n pn) (.ref it) [.If (.Name n pt) [.Expr (.YieldFrom (.Name n pv) py) pe] [] pi] [] env) [.ret k none false lv c₁ p []]).handled = none:=by
    exact hh
  induction r with
  | zero =>
    intro i m hi' C τ s hn' S
    show SegX _ _ _ ((forTurn _ _ _ _ _).onRaise _) _ _ _
    unfold forTurn
    rw [Sem.onRaise_eq_wrap]
    refine sx_bw (wpAny_standAt ?_)
    refine sx_bw (wpAny_onRaise ((itsRv hA).next (by exact .tail _ (hl C τ hn')) S (fun _ s₁ S₁=>?_) fun q v hq=>?_))
    · dsimp only
      rw [List.drop_eq_nil_iff.mpr (by rw [List.length_reverse]; wtm_at "om")]
      show SegX _ _ _ (.pure (.again (.block [] env))) _ _ _
      refine s_again prog w A _ _ _ _ _ (by rfl) ?_
      show SegX _ _ _ (.pure (.done .next)) _ _ _
      exact s_pop prog w A _ _ _ _ (.ok .next) _ rfl _ _ _ _ _ _ _ (hfin m C τ s₁ hn' S₁)
    · have : xs.reverse[i]? = none:=by rw [List.getElem?_eq_none_iff,List.length_reverse]; wtm_at "om"
      rw [this] at hq; cases hq
  | succ r ih =>
    intro i m hi' C τ s hn' S
    show SegX _ _ _ ((forTurn _ _ _ _ _).onRaise _) _ _ _
    unfold forTurn
    rw [Sem.onRaise_eq_wrap]
    refine sx_bw (wpAny_standAt ?_)
    have hlt:i < xs.reverse.length:=by rw [List.length_reverse]; wtm_at "om"
    refine sx_bw (wpAny_onRaise ((itsRv hA).next (by exact .tail _ (hl C τ hn')) S (fun hx s₁ S₁=>?_) fun q v hq hv s₁ S₁=>?_))
    · rw [List.getElem?_eq_none_iff] at hx; wtm_at "om"
    dsimp only
    have hqm:q∈xs:=List.mem_reverse.mp (List.mem_of_getElem? hq)
    obtain ⟨a,rfl,ham⟩:=hc C τ hn' q hqm
    have hv:v = .ref a:=by
      cases v with
      | ref b=>exact hv
      | _=>cases hv
    subst hv
    have hd:xs.reverse.drop i = .ref a::xs.reverse.drop (i + 1):=by
      rw [List.drop_eq_getElem_cons hlt,(List.getElem?_eq_some_iff.mp hq).2]
    rw [hd,List.flatMap_cons]
    refine sx_bw (wpAny_of_eq (a:=()) rfl ?_)
    refine sx_bw (wpAny_assign_Name (stL S₁ (.tail .head) hn hk fun s₂ S₂=>?_))
    rw [Sem.bind_eq_wrap',Sem.wrap_wrap,execs_cons_wrap,arm_exec_If]
    refine sx_bw (wpAny_standAt ?_)
    refine sx_bw (wpAny_isTrue_value (wpAny_Name (ldL (pv:=.ref a) (m:=(n,.ref a)::m) S₂ (.tail _ (.head _)) (by rw [List.lookup_cons]; simp) hk hn ?_) hdb))
    have hs3:∀ s₃,Sat (C.withG g .running) ((it,rvp l xs.length (i + 1))::(env.locals,PO.ns ((n,.ref a)::m))::τ) s₃→_:=fun s₃ S₃=>ih (i + 1) ((n,.ref a)::m) (by wtm_at "om") C τ s₃ hn' S₃
    refine truthyL S₂ (.tail _ (.tail _ ham)) (hz _) fun s₃ S₃=>?_
    cases he:(cont (.ref a)).isEmpty with
    | true =>
      rw [List.isEmpty_iff.mp he,List.nil_append]
      show SegX _ _ _ (.pure (.again _)) _ _ _
      exact s_again prog w A _ _ _ _ _ (by rfl) (hs3 s₃ S₃)
    | false =>
      show SegX _ _ _ (Sem.wrap _ _ _ _ (execs _ _)) _ _ _
      rw [execs_cons_wrap,exec_Expr env _ _ hi rfl]
      refine sx_bw (wpAny_standAt ?_)
      rw [Sem.bind_eq_wrap',Sem.wrap_wrap,arm_eval_YieldFrom]
      refine sx_bw (wpAny_Name (ldL (pv:=.ref a) (m:=(n,.ref a)::m) S₃ (.tail _ (.head _)) (by rw [List.lookup_cons]; simp) hk hn ?_) hdb)
      refine sx_bw (wpAny_standAt ?_)
      unfold yieldFrom
      obtain ⟨oa,hoa,its,nn,rfl,hea⟩:=S₃.get (.tail _ (.tail _ ham))
      refine sx_bw (wpAny_typeOf ⟨_,hoa,rfl⟩ ?_)
      show SegX _ _ _ (Sem.wrap _ _ _ _ (holding [Value.ref a] (pyIter (.ref a)) >>= _)) _ _ _
      refine sx_bw (wpAny_holding (iterL S₃ (.tail _ (.tail _ ham)) fun it2 s₄ S₄=>?_))
      refine s_call prog w A _ _ _ _ _ _ _ _ _ fun p'=>?_
      refine yf_list (l:=a) (xs:=cont (.ref a)) (own:=[(it,rvp l xs.length (i + 1)),(env.locals,PO.ns ((n,.ref a)::m))]) (fun C τ h=>by obtain ⟨a',e,h'⟩:=hc C τ h _ hqm; cases e; exact h') (by rfl) (by rfl) ?_ ?_ _ 0 rfl C τ s₄ hn' S₄
      · show _ = _
        exact hh
      · intro C τ s hn S
        exact s_again prog w A _ _ _ _ _ (by rfl) (ih (i + 1) ((n,.ref a)::m) (by wtm_at "om") C τ s hn S)
theorem revL {Q:Value→Shared→Prop} (S:Sat C σ s) (hl:(l,.lst xs)∈σ) (h:∀ it s',Sat C ((it,rvp l xs.length 0)::σ) s'→Q (.ref it) s'):wpAny (model prog w) A (call (.type "reversed") [.ref l]) Q E s:=by
  obtain ⟨its,hL,he⟩:=S.isList hl
  refine call_reversed_list hL (h _ _ (S.push (p:=rvp l xs.length 0) ⟨rfl,?_,Nat.zero_le _⟩ rfl s.toks))
  rw [lst_len he,show (xs.length:Int) - 1 - ((0:Nat):Int) = (xs.length:Int) - 1 by wtm_at "om"]
  rfl
theorem gen_func {f a:Str} {pf pa pc pfor:Pos} {m:List (Str × Value)} (cont:Value→List Value) (hl:∀ C τ,need C τ→(l,.lst xs)∈τ) (hc:∀ C τ,need C τ→∀ v∈xs,∃ a,v = .ref a∧(a,.lst (cont v))∈τ) (hz:∀ v,(cont v).length≤1000000)
    (hh:A.handled = none) (hk:env.scope.kind = .function) (hn:env.kindOf n = some .local) (hi:interactive env = false) (hdb:(n == ("__debug__" : Str)) = false)
    (hf:env.kindOf f = some .local) (hfm:m.lookup f = some (.type "reversed")) (hdf:(f == ("__debug__" : Str)) = false) (ha:env.kindOf a = some .local) (ham:m.lookup a = some (.ref l)) (hda:(a == ("__debug__" : Str)) = false)
    (hs:∀ x,foldedSetIterable (.Call (.Name f pf) [.Name a pa] [] pc) env x = pure x) :
    Emits prog w A need g (xs.reverse.flatMap cont) [(env.locals,.ns m)] (.func [.For (.Name n pn) (.Call (.Name f pf) [.Name a pa] [] pc) [.If (.Name n pt) [.Expr (.YieldFrom (.Name n pv) py) pe] [] pi] [] pfor] env)
      (denote table (.func [.For (.Name n pn) (.Call (.Name f pf) [.Name a pa] [] pc) [.If (.Name n pt) [.Expr (.YieldFrom (.Name n pv) py) pe] [] pi] [] pfor] env)) []:=by
  intro C τ s hn' S
  show SegX _ _ _ (.point [] fun _=>((execs _ env).onRaise (leaving env)) >>= _) _ _ _
  refine sx_wrap (m:=point) (K:=fun _=>_) (H:=.raise) (gd:=id) (lv:=fun _=>[]) (wpAny_point ?_)
  rw [Sem.onRaise_eq_wrap,Sem.bind_eq_wrap',Sem.wrap_wrap,execs_cons_wrap,exec_For]
  refine sx_bw (wpAny_standAt ?_)
  refine sx_bw ?_
  refine Call_Name rfl (wpAny_Name (ldL S (.head _) hfm hk hf ?_) hdf)
  refine PyProof.Rows.callWith_type1 ?_
  refine wpAny_items_cons (wpAny_Name (ldL S (.head _) ham hk ha ?_) hda)
  refine wpAny_items_nil ?_
  refine revL S (.tail _ (hl C τ hn')) fun it s₁ S₁=>?_
  refine sx_bw (wpAny_of_eq (hs _) ?_)
  refine sx_bw (wpAny_standAt ?_)
  refine sx_bw (wpAny_holding ((itsRv (xs:=xs) (l:=l) (C:=C.withG g .running) (by exact hh)).self S₁ ?_))
  refine s_call prog w A _ _ _ _ _ _ _ _ _ fun p'=>?_
  refine gen_loop cont hl hc hz rfl hh hk hn hi hdb rfl (fun m=>?_) _ 0 m rfl C τ s₁ hn' S₁
  intro C τ s hn S
  show SegX _ _ _ (.pure (.done (.ret .none))) _ _ _
  exact s_end prog w A _ _ _ (.ok (.ret .none)) _ rfl ⟨rfl,S.sub (List.sublist_cons_self _ _)⟩
end
end
section
variable {prog:Program} {w:World} {A:Around} {E:Value→Shared→Prop} {C:Cx} {σ τ:Led} {s:Shared} {g:Nat} {it l f:Addr} {xs:List Value} {env:Env}
noncomputable def gob (g:Nat):PO:=.prd fun o=>∃ nm qn,o.cls = .type "generator" ∧ o.data = .fields #[.int g 0,nm,qn]∧o.slots = #[]
theorem Sat.newG (S:Sat C σ s) (c:Code):Sat (C.withG s.gens.size (.fresh c)) σ { s with gens:=s.gens.push (.fresh c) }:=by
  refine ⟨S.old,S.stat,S.led,S.low,S.nd,S.os,S.gens.push rfl,fun p hp=>?_,S.tk,S.lam⟩
  rcases List.mem_cons.mp hp with rfl | hp
  · show (s.gens.push _)[s.gens.size]? = _
    rw [Array.getElem?_push_size]
  · have h:=S.gl p hp
    show (s.gens.push _)[p.1]? = _
    rw [Array.getElem?_push_lt (Array.getElem?_eq_some_iff.mp h).1]
    exact (Array.getElem?_eq_getElem _).symm.trans h
theorem Sat.freshG (S:Sat C σ s):∀ p∈C.gl,p.1 ≠ s.gens.size:=fun p hp e=>by
  have:=(Array.getElem?_eq_some_iff.mp (S.gl p hp)).1
  rw [e] at this
  exact Nat.lt_irrefl _ this
theorem callGen {Q:Value→Shared→Prop} {nm qual:Str} {params:Arguments} {body:List Stmt} {scope:Scope} {cl:List (Str × Addr)} {dV kV doc pm cdv ct oc:Value} {an od:Option Addr} {osl:Array (Option Value)} {args:Args} {binds:List (Str × Value)}
    (S:Sat C σ s) (hroom:A.depth < recursionLimit) (ho:C.K.lookup f = some ⟨oc,od,.func (fnX nm qual params body scope cl dV kV doc pm an cdv ct),osl⟩) (hcd:codeIn C.K cdv qual = true)
    (hbind:BindsTo s (fnX nm qual params body scope cl dV kV doc pm an cdv ct) args binds) (hloc:∀ y∈binds,scope.names.lookup y.1 = some .local)
    (h:∀ L a g s',(∀ p∈C.gl,p.1 ≠ g)→Sat (C.withG g (.fresh (.func body (envX qual scope L f cdv cl)))) ((a,gob g)::(L,.ns (binds.reverse.map fun y=>(y.1,er y.2)))::σ) s'→Q (.ref a) s')
    (hco:scope.isCoroutine = false:=by rfl) (hgen:scope.isGenerator = true:=by rfl) (hk:scope.kind = .function:=by rfl) (hcell:∀ x∈scope.names,x.2 ≠ .cell:=by decide) :
    wpAny (model prog w) A (call (.ref f) args.pos args.kw) Q E s:=by
  refine wpAny_call ?_
  refine codeAny_call_generator (fd:=fnX nm qual params body scope cl dV kV doc pm an cdv ct) (body:=body) hroom (S.kin _ _ ho) rfl hco hgen rfl (codeRec_of S.kin hcd) ?_
  refine hbind _ _ _ _ ?_
  refine wpAny_newFunctionEnv hcell hloc (fun h₁ hns hsb=>?_) hk
  have kk:∀ b o,s.heap.get? b = some o→h₁.get? b = some o:=fun b o e=>hsb.extBut b o (Nat.ne_of_lt (Heap.lt_size e)) (Heap.get?_push_of_some _ e)
  obtain ⟨o',ho',hp'⟩:=PO.of_ns (m:=binds.reverse.map fun y=>(y.1,er y.2)) hns (fun x=>by
      induction binds.reverse with
      | nil=>rfl
      | cons y r ih =>
        rw [List.lookup_cons,List.map_cons,List.lookup_cons]
        cases (x == y.1) <;> simp_all)
  have S₁:=S.grow kk (Nat.le_refl _) ho' hp' (s.toks + binds.length)
  refine ⟨S₁.lim,?_⟩
  have S₂:=S₁.push (p:=gob s.gens.size) (o:={ cls:=.type "generator", data:=.fields #[.int s.gens.size 0,.str nm (s.toks + binds.length),.str qual (s.toks + binds.length + 1)] }) ⟨_,_,rfl,rfl,rfl⟩ rfl (s.toks + binds.length + 1 + 1)
  exact h s.heap.objs.size _ s.gens.size _ S.freshG (S₂.newG (.func body (envX qual scope s.heap.objs.size f cdv cl)))
end
section
variable {prog:Program} {w:World} {A:Around} {E:Value→Shared→Prop} {C:Cx} {σ σ' τ:Led} {s:Shared} {it l a:Addr} {P:Str→Bool} {n:Nat} {Q:Value→Shared→Prop} {x:Str} {t:Tok}
noncomputable def stp (prog:Program) (w:World) (P:Str→Bool) (n:Nat):PO:=.prd fun o=>o.SetObjOf (PySem.strKind prog w) P n
theorem Sat.setOf (S:Sat C σ s) (hm:(a,stp prog w P n)∈σ) (hn:n < 4096):s.heap.SetOf (PySem.strKind prog w) a P n:=by
  obtain ⟨o,ho,hp⟩:=S.get hm
  exact Obj.SetObjOf.setOf hp ho hn
theorem notInS (S:Sat C σ s) (hm:(a,stp prog w P n)∈σ) (hn:n < 4096) (h:∀ s',Sat C σ s'→Q (.bool (!P x)) s'):wpAny (model prog w) A (compareOp .NotIn (.str x t) (.ref a)) Q E s :=
  wpAny_notInSet_of (k:=x) (strKind_is ..) rfl (S.setOf hm hn) (h _ (S.tok _))
theorem addS (S:Sat C σ s) (hn:n + 1 < 4096) (U:Upd a (stp prog w P n) (stp prog w (fun y=>P y || decide (y = x)) (if P x then n else n + 1)) σ σ') (h:∀ s',Sat C σ' s'→Q .none s') :
    wpAny (model prog w) A (call (.builtin "set.add") [.ref a,.str x t]) Q E s:=by
  refine call_set_add (k:=x) (strKind_is ..) rfl (S.setOf U.mem (by wtm_at "om")) hn fun h' hs hS=>?_
  obtain ⟨o,ho,hp⟩:=hS.objOf
  exact h _ (S.set U hs ho hp _)
theorem gmS {pl:Sem Bool} {Q:Value × List Value→Shared→Prop} (S:Sat C σ s) (hm:(a,stp prog w P n)∈σ) (hn:n < 4096) (h:Q (.builtin "set.add", [.ref a]) s):wpAny (model prog w) A (getMethod (.ref a) "add" pl) Q E s :=
  getMethod_set_add (S.setOf hm hn) h
theorem newS0 (S:Sat C σ s) (h:∀ a s',Sat C ((a,stp prog w (fun _=>false) 0)::σ) s'→Q (.ref a) s'):wpAny (model prog w) A (call (.type "set") []) Q E s :=
  call_set_0 fun led=>h _ _ (S.push (p:=stp prog w (fun _=>false) 0) (setObjOf_fresh led) rfl s.toks)
section
variable {po:Nat→PO} {xs:List Str} {need:Led→Prop} {R:Result→Shared→Prop}
theorem set_loop (I:Its C prog w A.in1 it po (txts xs) need) (hz:xs.length + 1 < 4096) (hneed:∀ q τ,need τ→need (q::τ)) :
    ∀ k i P n s,xs.length - i = k→i≤xs.length→need τ→n≤i→Sat C ((it,po i)::(a,stp prog w P n)::τ) s →
      (∀ s' n',n'≤xs.length→Sat C ((a,stp prog w (fun y=>P y || (xs.drop i).any fun z=>decide (y = z)) n')::τ) s'→R (.ok (.ret .none)) s') →
      codeAny (model prog w) A (.builtin "set.update.loop" ⟨[.ref a,.ref it],[]⟩) R s:=by
  intro k
  induction k with
  | zero =>
    intro i P n s hk hi hn hni S h
    refine codeAny_builtin F.entry_set_update_loop ?_
    rw [Around.under_plainId F.plain_set_update_loop _]
    show wpAny _ A.in1 (pyNext (.ref it) >>= _) _ _ s
    have hx:(txts xs)[i]? = none:=by rw [List.getElem?_eq_none_iff,List.length_map]; wtm_at "om"
    refine wpAny_bind (I.next (hneed _ _ hn) S (fun _ s' S'=>?_) fun p v hp=>?_)
    · show wpAny _ A.in1 (ret Value.none) _ _ s'
      refine wpAny_pure (h s' n (by wtm_at "om") ?_)
      have e:(fun y=>P y || (xs.drop i).any fun z=>decide (y = z)) = P:=by
        funext y
        rw [List.drop_eq_nil_iff.mpr (by wtm_at "om"),List.any_nil,Bool.or_false]
      rw [e]; exact S'
    · rw [hx] at hp; cases hp
  | succ k ih =>
    intro i P n s hk hi hn hni S h
    refine codeAny_builtin F.entry_set_update_loop ?_
    rw [Around.under_plainId F.plain_set_update_loop _]
    show wpAny _ A.in1 (pyNext (.ref it) >>= _) _ _ s
    have hlt:i < xs.length:=by wtm_at "om"
    refine wpAny_bind (I.next (hneed _ _ hn) S (fun hx=>?_) fun p v hp hv s' S'=>?_)
    · rw [List.getElem?_eq_none_iff,List.length_map] at hx; wtm_at "om"
    have hp':p = .str xs[i] 0:=by
      rw [List.getElem?_map,List.getElem?_eq_getElem hlt] at hp
      exact (Option.some.inj hp).symm
    subst hp'
    obtain ⟨t,rfl⟩:=er_str hv
    show wpAny _ A.in1 (holding [Value.str xs[i] t] (setAdd a (.str xs[i] t)) >>= _) _ _ s'
    refine wpAny_bind (wpAny_holding ?_)
    unfold setAdd
    refine wpAny_holding (wpAny_bind ((PySem.strKind prog w).pyHash (k:=xs[i]) (strKind_is ..) ?_))
    refine wpAny_setAddHashed_of (knd:=PySem.strKind prog w) (s:={ s' with toks:=s'.toks + 1 }) (strKind_is ..) rfl (S'.setOf (.tail _ (.head _)) (by wtm_at "om")) (by show n + 1 < 4096; wtm_at "om") fun h' hs hS=>?_
    obtain ⟨o,ho,hp⟩:=hS.objOf
    have S₂:=S'.set (.tail (.head (p':=stp prog w (fun y=>P y || decide (y = xs[i])) (if P xs[i] then n else n + 1)))) hs ho hp (s'.toks + 1)
    refine wpAny_pure ⟨plainId_quiet F.plain_set_update_loop _,ih (i + 1) _ _ _ (by wtm_at "om") (by wtm_at "om") hn (by split <;> wtm_at "om") S₂ fun s'' n' hn' S''=>h s'' n' hn' ?_⟩
    have e:(fun y=>P y || (xs.drop i).any fun z=>decide (y = z)) = fun y=>(P y || decide (y = xs[i])) || (xs.drop (i + 1)).any fun z=>decide (y = z):=by
      funext y
      rw [List.drop_eq_getElem_cons hlt,List.any_cons,Bool.or_assoc]
    rw [e]; exact S''
end
theorem Sat.weak {p q:PO} (S:Sat C ((a,p)::σ) s) (h:∀ o,p.Of o→q.Of o):Sat C ((a,q)::σ) s :=
  ⟨S.old,S.stat,fun r hr=>by
    rcases List.mem_cons.mp hr with rfl | hr
    · obtain ⟨o,ho,hp⟩:=S.get (.head _); exact ⟨o,ho,h o hp⟩
    · exact S.led r (.tail _ hr),
   fun r hr=>by
    rcases List.mem_cons.mp hr with rfl | hr
    · exact S.low (a,p) (.head _)
    · exact S.low r (.tail _ hr),S.nd,S.os,S.gens,S.gl,S.tk,S.lam⟩
set_option maxHeartbeats 3200000 in
theorem setInit {l:Addr} {led:Bool} {R:Result→Shared→Prop} (S₁:Sat C ((a,.raw { cls:=.type "set", dict:=none,data:=.set #[] 0 (.fresh 0 0 led) })::σ) s) (hl:(l,.lst (txts xs))∈σ) (hz:xs.length + 1 < 4096) (hh:A.handled = none)
    (h:∀ n s',n≤xs.length→Sat C ((a,stp prog w (fun y=>xs.any fun z=>decide (y = z)) n)::σ) s'→R (.ok (.ret .none)) s') :
    wpAny (model prog w) A.in1.in1 (Builtin.«set.__init__» ⟨[.ref a,.ref l],[]⟩) (fun fin s'=>match fin with | .done f=>R (.ok f) s' | .again c'=>c'.quiet = true∧codeAny (model prog w) A.in1 c' R s') (fun e s'=>R (.error e) s') s:=by
  obtain ⟨ol,hol,its,nl,rfl,hel⟩:=S₁.get (.tail _ hl)
  obtain ⟨oa,hoa,hpa⟩:=S₁.get (.head _)
  have hpa:oa = _:=hpa
  subst hpa
  have hsls:=F.sub_list_set
  have hslf:=F.sub_list_frozenset
  have hne:(Value.type "list" == Value.type "dict") = false:=by decide
  have S₂:=S₁.weak (q:=stp prog w (fun _=>false) 0) fun o ho=>by rw [show o = _ from ho]; exact setObjOf_fresh led
  unfold Builtin.«set.__init__» noKeywords Builtin.Frozenset.updateFrom
  generalize hPI:pyIter = PI
  obtain ⟨hp,g,d,tk,os⟩:=s
  wp_walk
  subst hPI
  refine iterL S₂ (.tail _ hl) fun it s' S'=>?_
  refine wpAny_bind (wpAny_runValue (set_loop (xs:=xs) (need:=fun τ=>(l,.lst (txts xs))∈τ) (itsL (by exact hh)) hz (fun q τ h=>(List.Mem.tail q h:(l,PO.lst (txts xs))∈q::τ)) _ 0 _ 0 s' rfl (Nat.zero_le _) hl (Nat.le_refl _) S' fun s'' n' hn' S''=>?_))
  refine wpAny_pure (wpAny_pure (h n' s'' hn' ?_))
  have e:(fun y=>false || (xs.drop 0).any fun z=>decide (y = z)) = fun y=>xs.any fun z=>decide (y = z):=by funext y; simp
  rw [← e]; exact S''
end
section
variable {prog:Program} {w:World} {A:Around} {E:Value→Shared→Prop} {C:Cx} {σ σ' τ:Led} {s:Shared} {it l a:Addr} {P:Str→Bool} {n:Nat} {Q:Value→Shared→Prop} {xs:List Str}
set_option maxHeartbeats 3200000 in
theorem setOfL {l:Addr} (S:Sat C σ s) (hl:(l,.lst (txts xs))∈σ) (hz:xs.length + 1 < 4096) (hh:A.handled = none)
    (h:∀ a n s',n≤xs.length→Sat C ((a,stp prog w (fun y=>xs.any fun z=>decide (y = z)) n)::σ) s'→Q (.ref a) s'):wpAny (model prog w) A (call (.type "set") [.ref l]) Q E s:=by
  obtain ⟨c,tl,hmro⟩:=F.called_set.mro
  have hmade:=F.called_set.made
  have hsub:=F.called_set.sub
  refine wpAny_call (codeAny_of_tree ?_)
  show wpAny _ _ (callAny (.type "set") _) _ _ _
  refine wpAny_pure ⟨Code.quiet_builtin _ (by decide +kernel),codeAny_builtin F.entry_type_call ?_⟩
  rw [Around.under_plain (weight_type_call_type "set" [.ref l] []) rfl]
  have h1:=F.called_set.notType
  have h2:=F.called_set.canCreate
  have hct:=F.typeCall_set_1 (.ref l)
  repeat (any_goals (first | assumption | wp_step))
  refine codeAny_mono (code_set_new_1 (.ref l) (E:=E) (Q₁:=fun obj s₁=>∃ a led,obj = .ref a∧Sat C ((a,.raw { cls:=.type "set", dict:=none,data:=.set #[] 0 (.fresh 0 0 led) })::σ) s₁)
    fun led=>⟨_,led,rfl,S.push (p:=.raw _) rfl rfl s.toks⟩) fun r s₁ hr=>?_
  cases r with
  | error e=>exact hr
  | ok fl =>
    cases fl with
    | ret obj =>
      obtain ⟨a,led,rfl,S₁⟩:=hr
      obtain ⟨oa,hoa,hpa⟩:=S₁.get (.head _)
      have hpa:oa = _:=hpa
      subst hpa
      have hT:s₁.TypeIs (.ref a) "set" := ⟨_,hoa,rfl⟩
      have hli:=F.called_set.init.lookup
      have hbi:=F.called_set.init.bind (.ref a)
      repeat (any_goals (first | assumption | wp_step))
      refine codeAny_mono (codeAny_call_builtin (R:=wants (fun r s₂=>r = .none∧∃ n,n≤xs.length∧Sat C ((a,stp prog w (fun y=>xs.any fun z=>decide (y = z)) n)::σ) s₂) E) F.called_set.init.plain F.entry_set_init (check_set_init_1 hT ?_)) fun r₂ s₂ hr₂=>?_
      · exact setInit S₁ hl hz hh fun n s₂ hn S₂=>⟨rfl,n,hn,S₂⟩
      · cases r₂ with
        | error e=>exact hr₂
        | ok fl₂ =>
          cases fl₂ with
          | ret r =>
            obtain ⟨rfl,n,hn,S₂⟩:=hr₂
            repeat (any_goals (first | assumption | wp_step))
            exact h _ n _ hn S₂
          | _=>exact hr₂.elim
    | _=>exact hr.elim
end
theorem Rm.under {n:Nat} {A:Around} {c:Addr} {rest:List Value} {kw:List (Str × Value)} (r:Rm (n + 1) A):Rm n (A.under (.builtin "type.__call__" ⟨.ref c::rest,kw⟩)) :=
  ⟨r.hand,by have:=r.dep; show A.depth + 1 + _ < _; wtm_at "om", by have:=r.un; show A.units + 1 + _ < _; wtm_at "om"⟩
section
variable {prog:Program} {w:World} {A:Around} {E:Value→Shared→Prop} {C:Cx} {σ σ' τ:Led} {s:Shared} {it l a:Addr} {n:Nat} {Q:Value→Shared→Prop}
theorem newI {Cc fI:Addr} {rest:List Value} {kw:List (Str × Value)} (S:Sat C σ s) (hm:makesIn C.K Cc = true) (hi:findIn C.K (.ref Cc) "__init__" = some (some (.ref fI))) (hf:typeIn C.K (.ref fI) = some (.type "function"))
    (h:∀ x d s',Sat C ((x,.ins Cc d)::(d,.idc [])::σ) s'→codeAny (model prog w) (A.under (.builtin "type.__call__" ⟨.ref Cc::rest,kw⟩)) (.call (.ref fI) ⟨.ref x::rest,kw⟩)
      (fun r s''=>r = .ok (.ret .none)∧Q (.ref x) s'') s'):wpAny (model prog w) A (call (.ref Cc) rest kw) Q E s:=by
  refine wpAny_call ?_
  have S₁:=S.push (p:=.idc []) (o:=emptyDict) ⟨#[],0,rfl,by intro e he; simp at he,fun x=>rfl,Nat.zero_le _⟩ rfl s.toks
  have S₂:=S₁.push (p:=.ins Cc s.heap.objs.size) (o:=instObj Cc s.heap.objs.size) rfl rfl s.toks
  rw [Heap.size_push] at S₂
  have z:=h _ _ _ S₂
  obtain ⟨hh,g,d,t,os⟩:=s
  refine make_core (makes_of S.kin hm) (looks_findIn S.kin hi) (fun self=>bind_fn S.kin self hf) (.inl rfl) (codeAny_mono z fun r s' hr=>?_)
  obtain ⟨rfl,hq⟩:=hr
  exact ⟨rfl,hq⟩
end
noncomputable def repl (name:Str) (v:Value):List (Str × Value)→List (Str × Value)
  | []=>[]
  | p::r=>if name == p.1 then (p.1,v)::r else p::repl name v r
theorem repl_length (name:Str) (v:Value):∀ m:List (Str × Value),(repl name v m).length = m.length
  | []=>rfl
  | p::r=>by
    show (if (name == p.1) = true then (p.1,v)::r else p::repl name v r).length = r.length + 1
    by_cases h:(name == p.1) = true
    · rw [if_pos h]; rfl
    · rw [if_neg h,List.length_cons,repl_length name v r]
theorem repl_lookup (name:Str) (v:Value) (x:Str):∀ m:List (Str × Value),(m.lookup name).isSome = true→(repl name v m).lookup x = if x = name then some v else m.lookup x
  | [],h=>by cases h
  | p::r,h=>by
    rw [List.lookup_cons] at h
    show List.lookup x (if (name == p.1) = true then (p.1,v)::r else p::repl name v r) = _
    cases hp:(name == p.1) with
    | true =>
      have e:=beq_iff_eq.mp hp
      rw [if_pos rfl,List.lookup_cons,List.lookup_cons]
      by_cases hx:x = name
      · rw [if_pos hx,hx,hp]
      · have : (x == p.1) = false:=beq_eq_false_iff_ne.mpr (by rw [← e]; exact hx)
        rw [if_neg hx,this]
    | false =>
      rw [hp] at h
      rw [if_neg Bool.false_ne_true,List.lookup_cons,List.lookup_cons,repl_lookup name v x r h]
      by_cases hx:x = name
      · subst hx; simp [hp]
      · cases (x == p.1) <;> simp [hx]
section
variable {name:Str} {o:Obj} {m:List (Str × Value)} {v:Value}
theorem putName_in (hp:(PO.idc m).Of o) (hs:(m.lookup name).isSome = true) (hsh:Int) (t:Tok):(PO.idc (repl name (er v) m)).Of (Obj.putName name hsh (.str name t) v o)∧(Obj.putName name hsh (.str name t) v o).isFreed = false:=by
  obtain ⟨es,ep,hd,k,f,z⟩:=hp
  obtain ⟨c,d,dt,sl⟩:=o
  subst hd
  have hi:∃ i,es.findIdx? (·.key.isStr name) = some i:=by
    have h1:=f name
    have h2:(nsFind es name).isSome = true:=by rw [← Option.isSome_map (f:=er),h1]; exact hs
    cases hi:es.findIdx? (·.key.isStr name) with
    | some i=>exact ⟨i,rfl⟩
    | none =>
      rw [Array.findIdx?_eq_none_iff] at hi
      unfold nsFind findBy at h2
      rw [Option.isSome_map,Array.find?_isSome] at h2
      obtain ⟨e,he,h⟩:=h2
      have:=hi e he
      rw [show e.key.isStr name = true from h] at this
      cases this
  obtain ⟨i,hi⟩:=hi
  have hdat:(Obj.putName name hsh (.str name t) v { cls:=c,dict:=d,data:=.dict es ep,slots:=sl }).data = .dict (es.modify i fun e=>{ e with val:=v }) ep:=by
    simp only [Obj.putName_eq,Obj.putNameByArray,hi]
  refine ⟨⟨_,ep,hdat,k.modify _ _,fun x=>?_,?_⟩,Obj.isFreed_of_dict hdat⟩
  · have q:nsFind (es.modify i fun e=>{ e with val:=v }) x = if x = name then some v else nsFind es x:=findBy_modify (fun n v=>v.isStr n) Value.isStr_inj es name x v i hi
    rw [q,repl_lookup name (er v) x m hs]
    by_cases hx:x = name
    · rw [if_pos hx,if_pos hx]; rfl
    · rw [if_neg hx,if_neg hx]; exact f x
  · rw [Array.size_modify,repl_length]; exact z
end
section
variable {prog:Program} {w:World} {A:Around} {E:Value→Shared→Prop} {C:Cx} {σ σ':Led} {s:Shared} {name:Str} {v:Value} {m:List (Str × Value)} {x d Cc:Addr}
theorem setB {Q:Unit→Shared→Prop} (S:Sat C σ s) (hm:(x,.ins Cc d)∈σ) (U:Upd d (.idc m) (.idc (repl name (er v) m)) σ σ') (hi:(m.lookup name).isSome = true) (hs:findIn C.K (.ref Cc) "__setattr__" = some (some (.builtin "object.__setattr__"))) (hp:plainOver C.K Cc = true)
    (ht:takerIn C.K Cc name = some none) (hh:hasDictIn C.K Cc = true) (hz:m.length < 1000) (h:∀ s',Sat C σ' s'→Q () s'):wpAny (model prog w) A (setAttr (.ref x) name v) Q E s:=by
  obtain ⟨od,es,ep,I,ho,e,k,ff,z⟩:=S.inst hm U.mem
  refine set_plain S.kin I hs ?_
  have S1:=S.tok (s.toks + 1)
  refine osa_open (s:={ s with toks:=s.toks + 1 }) S1.kin I hp ht fun b=>?_
  obtain ⟨cd,hc,hd'⟩:=any_some hh
  have X:=S1.kin
  refine wpAny_bind (wpAny_pure (wpAny_bind (wpAny_bind (wpAny_loadPart I.at_ (wpAny_bind ((looks_clsIn X hc).here ?_))))))
  rw [hd']
  refine wpAny_pure (a:=some d) (wpAny_bind (wpAny_pure (wpAny_bind ?_)))
  unfold nsSet
  refine wpAny_bind (wpAny_bind (wpAny_askSetting (wpAny_pure (wpAny_bind (wpAny_mkText (wpAny_bind (wpAny_loadPart ho ?_)))))))
  rw [e]
  dsimp only
  have c:(!es.any (·.key.isStr name) && es.any (·.refKey)) = false:=by
    have : es.any (·.refKey) = false:=by
      rw [Array.any_eq_false']; intro e he; obtain ⟨n,t,h⟩:=k e he; simp [DictEntry.refKey,h]
    rw [this,Bool.and_false]
  rw [aRefKeyMayBeTheName_at,c]
  have P:∀ hsh tk,_:=fun hsh tk=>putName_in (name:=name) (v:=v) (o:=od) (m:=m) ⟨es,ep,e,k,ff,z⟩ hi hsh tk
  refine wpAny_updatePart ho ?_
  refine wpAny_bind (wpAny_lookBehind (Heap.get?_update_self _ ho (P _ _).2) ?_ ?_)
  · obtain ⟨⟨es',ep',e',_,_,z'⟩,_⟩:=P (if name.cps.isEmpty then 0 else reduceHash ((model prog w).w.params.strHash name.cps)) (s.toks + 1)
    rw [e']
    exact pastItsLine_dict (by rw [sizeLine_eq]; rw [repl_length] at z'; wtm_at "om")
  · refine wpAny_pure ?_
    exact h _ (S.upd U ho (P _ _).1 (P _ _).2 _)
end
open Builtin.Str in
section
variable {prog:Program} {w:World} {A:Around} {E:Value→Shared→Prop} {C:Cx} {σ σ' τ:Led} {s:Shared} {it l a b:Addr} {n:Nat} {Q:Value→Shared→Prop} {env:Env} {x y z:Str} {t u v:Tok}
theorem replaceV (S:Sat C σ s) (hu:u ≠ 0) (hv:v ≠ 0) (huv:u ≠ v) (hyz:(y == z) = false) (hb:x.length + (x.length + 1) * z.length≤16777216)
    (hq:∀ t s',Sat C σ s'→Q (.str (Txt.replace x y z) t) s'):wpAny (model prog w) A (call (.builtin "str.replace") [.str x t,.str y u,.str z v]) Q E s:=by
  have hl:tooLong (x.length + (occurrences x y 0 x.length (x.length + 1)).length * z.length) = false:=by
    have h1:=StrLaws.occ_length_le x y 0 x.length (x.length + 1)
    have h2:(occurrences x y 0 x.length (x.length + 1)).length * z.length≤(x.length + 1) * z.length:=Nat.mul_le_mul_right _ h1
    unfold tooLong
    rw [decide_eq_false_iff_not,sizeLine_eq]; wtm_at "om"
  refine call_gives PySem.F.slot_str_replace (typeIs_str _ _ _) PySem.F.entry_str_replace (PySem.F.args_str_replace_3 _ _ _)
    (gives_str_replace x y z t u v fun _=>⟨by simp [hu,hv],by simp [huv],hyz,hl⟩) ?_
  have hq':∀ t s',Sat C σ s'→Q (.str (if ((occurrences x y 0 x.length (x.length + 1)).isEmpty || (y.length == 0 && z.length == 0)) = true then x
    else glued z (partsBetween x (occurrences x y 0 x.length (x.length + 1)) y.length)) t) s':=hq
  cases hc:((occurrences x y 0 x.length (x.length + 1)).isEmpty || (y.length == 0 && z.length == 0)) with
  | false =>
    rw [hc] at hq'
    simp only [Bool.false_eq_true,if_false] at hq' ⊢
    exact ⟨fits_replaced y hb,hq' _ _ (S.tok _)⟩
  | true =>
    rw [hc] at hq'
    simp only [if_true] at hq' ⊢
    exact hq' t s S
theorem replaceS {k₁ k₂:Nat} {p₁ p₂ pos:Pos} (S:Sat C σ s) (hyz:(y == z) = false) (hb:x.length + (x.length + 1) * z.length≤16777216)
    (hq:∀ t s',Sat C σ s'→Q (.str (Txt.replace x y z) t) s') :
    wpAny (model prog w) A (callWith pos (.builtin "str.replace") [.str x t] (backTo pos (starEach [.Constant (.str y) k₁ p₁,.Constant (.str z) k₂ p₂] env)) []) Q E s:=by
  refine callWith_method1 (wpAny_items_cons (wpAny_Constant_str (wpAny_items_cons (wpAny_Constant_str (wpAny_items_nil ?_)))))
  have h0:=S.tk
  exact replaceV ((S.tok (s.toks + 1)).tok (s.toks + 1 + 1)) (by show s.toks ≠ 0; wtm_at "om") (by show s.toks + 1 ≠ 0; wtm_at "om") (by show s.toks ≠ s.toks + 1; wtm_at "om") hyz hb hq
theorem strsOf {its:Array Value} {xs:List Str} (he:its.toList.map er = txts xs):∃ ys:List (Str × Tok),its = (strValues ys).toArray∧ys.map (·.1) = xs:=by
  have : ∀ (vs:List Value) (xs:List Str),vs.map er = txts xs→∃ ys:List (Str × Tok),vs = strValues ys∧ys.map (·.1) = xs:=by
    intro vs
    induction vs with
    | nil=>intro xs e; cases xs with | nil=>exact ⟨[],rfl,rfl⟩ | cons _ _=>cases e
    | cons v vs ih =>
      intro xs e
      cases xs with
      | nil=>cases e
      | cons y ys =>
        injection e with e1 e2
        obtain ⟨u,rfl⟩:=er_str e1
        obtain ⟨zs,rfl,rfl⟩:=ih ys e2
        exact ⟨(y,u)::zs,rfl,rfl⟩
  obtain ⟨ys,e1,e2⟩:=this its.toList xs he
  exact ⟨ys,by rw [← e1],e2⟩
theorem joinFits {x:Str} {ys:List (Str × Tok)} (h1:(ys.map (·.1)).foldl (fun n p=>n + p.length + x.length) 0≤1000000):tooLong ((ys.map (·.1)).toArray.foldl (· + ·.length + x.length) 0) = false:=by
  unfold tooLong
  rw [decide_eq_false_iff_not,sizeLine_eq,List.foldl_toArray]
  wtm_at "om"
theorem joinPost {x:Str} {ys:List (Str × Tok)} (S:Sat C σ s) (h2:(glued x (ys.map (·.1))).length≤1000000) (h:∀ t s',Sat C σ s'→Q (.str (glued x (ys.map (·.1))) t) s') :
    (joinMade x ys).post (fun v s'=>wants Q E (.ok (.ret v)) s') s:=by
  match ys,h2,h with
  | [],h2,h=>exact ⟨by rw [sizeLine_eq]; exact Nat.le_trans h2 (by wtm_at "om"),h _ _ (S.tok _)⟩
  | [p],_,h=>exact h p.2 _ S
  | p::q::r,h2,h=>exact ⟨by rw [sizeLine_eq]; exact Nat.le_trans h2 (by wtm_at "om"),h _ _ (S.tok _)⟩
theorem joinS {l:Addr} {xs:List Str} (S:Sat C σ s) (hl:(l,.lst (txts xs))∈σ) (h1:xs.foldl (fun n p=>n + p.length + x.length) 0≤1000000) (h2:(glued x xs).length≤1000000) (h:∀ t s',Sat C σ s'→Q (.str (glued x xs) t) s') :
    wpAny (model prog w) A (call (.builtin "str.join") [.str x t,.ref l]) Q E s:=by
  obtain ⟨its,hL,he⟩:=S.isList hl
  obtain ⟨ys,rfl,rfl⟩:=strsOf he
  exact call_meets PySem.F.slot_str_join (typeIs_str _ _ _) PySem.F.entry_str_join (PySem.F.args_str_join_2 _ _) (meets_str_join_list x t l ys (joinFits h1)) ⟨hL,joinPost S h2 h⟩
theorem listItems {K:Type} [DecidableEq K] {knd:KeyKind prog w K} {kvs:List (K × Value)} {ep:Nat} {r d:Addr} (S:Sat C σ s) (hh:A.handled = none) (hv:s.heap.IsItemsView r d) (hm:s.heap.DictAt knd d kvs ep) (hn:kvs.length≤1000)
    (h:∀ D s',Sat C ((D,.prd fun _=>True)::σ) s'→Q (.ref D) s'):wpAny (model prog w) A (call (.type "list") [.ref r]) Q E s:=by
  refine withTk (kdx_call hh hv hm (by rw [sizeLine_eq]; wtm_at "om") fun h' tk acc c as k ho _ _ _ htk=>?_) S.tk
  exact h _ _ (S.grow (p:=.prd fun _=>True) k (Nat.le_refl _) ho trivial tk htk)
theorem evD0 {env:Env} {pos:Pos} (S:Sat C σ s) (h:∀ D s',Sat C ((D,.raw emptyDict)::σ) s'→Q (.ref D) s'):wpAny (model prog w) A (eval (.Dict [] [] pos) env) Q E s:=by
  rw [eval_Dict_empty]
  refine wpAny_bind (wpAny_standAt ?_)
  exact wpAny_newObj_type (h _ _ (S.push (p:=.raw emptyDict) rfl rfl s.toks))
end
noncomputable def bndO (id:String) (self:Value):Obj:={ cls:=.type "builtin_function_or_method", data:=.fields #[.builtin id,self] }
section
variable {prog:Program} {w:World} {A:Around} {E:Value→Shared→Prop} {C:Cx} {σ σ' τ:Led} {s:Shared} {a l:Addr} {Q:Value→Shared→Prop} {xs:List Value}
theorem check_append {v:Value} {its:Array Value} {n:Nat} {Q:Unit→Shared→Prop} (ho:s.heap.get? l = some { cls:=.type "list", data:=.seq its n }) (h:Q () s):wpAny (model prog w) A (checkBoundCall "list.append" ⟨[.ref l,v],[]⟩) Q E s:=by
  have hT:s.TypeIs (.ref l) "list" := ⟨_,ho,rfl⟩
  have hsub:isSubtype (.type "list") (.type "module") = pure false:=by rw [isSubtype_type]; kernel_rfl
  have hs:Manifest.signature? "list.append" = some ⟨.oneArg, "list.append", "append", .self,[⟨"object", .posOnly,true⟩]⟩:=by kernel_rfl
  have hk:builtinKind "list.append" = some .method:=by decide +kernel
  unfold checkBoundCall
  rw [hs,hk]
  dsimp only
  rw [if_neg (by decide)]
  refine wpAny_bind (wpAny_isInstance hT hsub ?_)
  rw [if_neg (by decide +kernel)]
  refine wpAny_bind ?_
  unfold isType
  refine wpAny_bind (wpAny_loadPart ho (wpAny_pure ?_))
  dsimp only
  rw [if_neg Bool.false_ne_true]
  refine wpAny_bind (wpAny_typeOf hT ?_)
  dsimp only
  exact wpAny_of_eq (by kernel_rfl) h
theorem callAppB {v:Value} (S:Sat C σ s) (ha:(a,.raw (bndO "list.append" (.ref l)))∈σ) (U:Upd l (.lst xs) (.lst (xs ++ [er v])) σ σ') (hz:xs.length≤1000000) (h:∀ s',Sat C σ' s'→Q .none s'):wpAny (model prog w) A (call (.ref a) [v]) Q E s:=by
  obtain ⟨o,ho,hp⟩:=S.get ha
  have hp:o = _:=hp
  subst hp
  obtain ⟨its,n,hol,he⟩:=S.lst U.mem
  refine wpAny_call (codeAny_of_tree ?_)
  show wpAny _ A.in1 (callAny (.ref a) ⟨[v],[]⟩) _ _ s
  show wpAny _ _ (load a >>= _) _ _ s
  refine wpAny_bind (wpAny_load ho ?_)
  show wpAny _ _ (if (Value.type "builtin_function_or_method" == Value.type "method" || Value.type "builtin_function_or_method" == Value.type "builtin_function_or_method" || Value.type "builtin_function_or_method" == Value.type "method-wrapper") = true then _ else _) _ _ s
  rw [if_pos (by decide)]
  show wpAny _ _ (if (Value.type "builtin_function_or_method" != Value.type "method") = true then _ else _) _ _ s
  rw [if_pos (by decide)]
  refine wpAny_bind (check_append hol ?_)
  refine wpAny_bind (wpAny_pure (wpAny_pure ?_))
  refine ⟨plainId_quiet (by decide +kernel) _,codeAny_builtin entry_list_append ?_⟩
  rw [Around.under_plainId (by decide +kernel)]
  show wpAny _ _ (updateSeq l (·.push v) >>= fun _=>ret .none) _ _ s
  refine wpAny_bind (wpAny_updateSeq (hz:=by have:=lst_len he; rw [sizeLine_eq]; wtm_at "om") (_hz':=by have:=lst_len he; rw [sizeLine_eq,Array.size_push]; wtm_at "om") hol rfl (wpAny_pure (h _ (S.upd U hol ?_ ?_ s.toks))))
  · rw [mapSeq_push]
    refine lst_of ?_
    rw [Array.toList_push,List.map_append,he]; rfl
  · rw [mapSeq_push]; rfl
end
section
variable {prog:Program} {w:World} {A:Around} {E:Value→Shared→Prop} {C:Cx} {σ σ' τ:Led} {s:Shared} {a l sl:Addr} {xs:List Value} {env:Env}
end
inductive Ex2 {α β:Type} (p:α→β→Prop):Prop
  | mk (x0:α) (x1:β) (h:p x0 x1):Ex2 p
inductive Ex3 {α β γ:Type} (p:α→β→γ→Prop):Prop
  | mk (x0:α) (x1:β) (x2:γ) (h:p x0 x1 x2):Ex3 p
inductive Ex4 {α β γ δ:Type} (p:α→β→γ→δ→Prop):Prop
  | mk (x0:α) (x1:β) (x2:γ) (x3:δ) (h:p x0 x1 x2 x3):Ex4 p
inductive Ex5 {α β γ δ ε:Type} (p:α→β→γ→δ→ε→Prop):Prop
  | mk (x0:α) (x1:β) (x2:γ) (x3:δ) (x4:ε) (h:p x0 x1 x2 x3 x4):Ex5 p
inductive Ex6 {α β γ δ ε ζ:Type} (p:α→β→γ→δ→ε→ζ→Prop):Prop
  | mk (x0:α) (x1:β) (x2:γ) (x3:δ) (x4:ε) (x5:ζ) (h:p x0 x1 x2 x3 x4 x5):Ex6 p
inductive Ex7 {α β γ δ ε ζ η:Type} (p:α→β→γ→δ→ε→ζ→η→Prop):Prop
  | mk (x0:α) (x1:β) (x2:γ) (x3:δ) (x4:ε) (x5:ζ) (x6:η) (h:p x0 x1 x2 x3 x4 x5 x6):Ex7 p
inductive Al3 (p0 p1 p2:Prop):Prop
  | mk (h0:p0) (h1:p1) (h2:p2):Al3 p0 p1 p2
inductive Al4 (p0 p1 p2 p3:Prop):Prop
  | mk (h0:p0) (h1:p1) (h2:p2) (h3:p3):Al4 p0 p1 p2 p3
inductive Al5 (p0 p1 p2 p3 p4:Prop):Prop
  | mk (h0:p0) (h1:p1) (h2:p2) (h3:p3) (h4:p4):Al5 p0 p1 p2 p3 p4
inductive Al6 (p0 p1 p2 p3 p4 p5:Prop):Prop
  | mk (h0:p0) (h1:p1) (h2:p2) (h3:p3) (h4:p4) (h5:p5):Al6 p0 p1 p2 p3 p4 p5
inductive Al7 (p0 p1 p2 p3 p4 p5 p6:Prop):Prop
  | mk (h0:p0) (h1:p1) (h2:p2) (h3:p3) (h4:p4) (h5:p5) (h6:p6):Al7 p0 p1 p2 p3 p4 p5 p6
inductive Al8 (p0 p1 p2 p3 p4 p5 p6 p7:Prop):Prop
  | mk (h0:p0) (h1:p1) (h2:p2) (h3:p3) (h4:p4) (h5:p5) (h6:p6) (h7:p7):Al8 p0 p1 p2 p3 p4 p5 p6 p7
inductive Al9 (p0 p1 p2 p3 p4 p5 p6 p7 p8:Prop):Prop
  | mk (h0:p0) (h1:p1) (h2:p2) (h3:p3) (h4:p4) (h5:p5) (h6:p6) (h7:p7) (h8:p8):Al9 p0 p1 p2 p3 p4 p5 p6 p7 p8
inductive Al10 (p0 p1 p2 p3 p4 p5 p6 p7 p8 p9:Prop):Prop
  | mk (h0:p0) (h1:p1) (h2:p2) (h3:p3) (h4:p4) (h5:p5) (h6:p6) (h7:p7) (h8:p8) (h9:p9):Al10 p0 p1 p2 p3 p4 p5 p6 p7 p8 p9
def ids (s:String):Array Lean.Ident:=(s.splitOn " ").toArray.map fun x=>Lean.mkIdent x.toName
noncomputable def keptO (p:Addr × Obj):Bool:=match p.2.cls with | .none=>false | _=>true
noncomputable abbrev KK (P:Params):Frag:=heapK P
theorem lookup_KK {P:Params} {a:Addr} {o:Obj} (h:(heapK P).lookup a = some o) (_:keptO (a,o) = true):(KK P).lookup a = some o:=h
theorem gEntry {P:Params}:nsIn (KK P) mainGlobals (Str.ofString "Entry") = some (some (.ref 76)):=by kernel_rfl
theorem gmerge_entries {P:Params}:nsIn (KK P) mainGlobals (Str.ofString "merge_entries") = some (some (.ref 87)):=by kernel_rfl
theorem gC14NWriterTarget {P:Params}:nsIn (KK P) mainGlobals (Str.ofString "C14NWriterTarget") = some (some (.ref 199)):=by kernel_rfl
theorem g_escape_attrib_c14n {P:Params}:nsIn (KK P) mainGlobals (Str.ofString "_escape_attrib_c14n") = some (some (.ref 217)):=by kernel_rfl
theorem g_law_rule {P:Params}:nsIn (KK P) mainGlobals (Str.ofString "_law_rule") = some (some (.ref 224)):=by kernel_rfl
theorem g_law_spelled {P:Params}:nsIn (KK P) mainGlobals (Str.ofString "_law_spelled") = some (some (.ref 229)):=by kernel_rfl
theorem g_law_numbers_and_places {P:Params}:nsIn (KK P) mainGlobals (Str.ofString "_law_numbers_and_places") = some (some (.ref 236)):=by kernel_rfl
theorem g_law_whole {P:Params}:nsIn (KK P) mainGlobals (Str.ofString "_law_whole") = some (some (.ref 241)):=by kernel_rfl
theorem bset:bootBuiltins (Str.ofString "set") = some (.type "set"):=by kernel_rfl
theorem blist:bootBuiltins (Str.ofString "list") = some (.type "list"):=by kernel_rfl
theorem blen:bootBuiltins (Str.ofString "len") = some (.builtin "len"):=by kernel_rfl
theorem bsum:bootBuiltins (Str.ofString "sum") = some (.builtin "sum"):=by kernel_rfl
theorem brange:bootBuiltins (Str.ofString "range") = some (.type "range"):=by kernel_rfl
theorem benumerate:bootBuiltins (Str.ofString "enumerate") = some (.type "enumerate"):=by kernel_rfl
theorem bfilter:bootBuiltins (Str.ofString "filter") = some (.type "filter"):=by kernel_rfl
theorem bsorted:bootBuiltins (Str.ofString "sorted") = some (.builtin "sorted"):=by kernel_rfl
theorem bint:bootBuiltins (Str.ofString "int") = some (.type "int"):=by kernel_rfl
theorem bstr:bootBuiltins (Str.ofString "str") = some (.type "str"):=by kernel_rfl
noncomputable def noneNone (x:Option (Option Value)):Bool:=x.any (·.isNone)
noncomputable def isBu (s:String) (v:Value):Bool:=v == .builtin s
noncomputable def isTy (s:String) (v:Value):Bool:=v == .type s
noncomputable def isRf (f:Addr) (v:Value):Bool:=v == .ref f
noncomputable def fldOk (K:Frag) (c:Addr) (n:Str):Bool:=plainGet K c n && noneNone (findIn K (.ref c) n) && noneNone (takerIn K c n)
noncomputable def clsOk (K:Frag) (c:Addr):Bool:=hasDictIn K c && plainOver K c && (findIn K (.ref c) "__setattr__").any (·.any (isBu "object.__setattr__"))
noncomputable def fW:List Str:=["_ignored_depth", "_root_done", "_root_seen", "_pending_start", "_preserve_space", "_prefix_map", "_ns_stack", "_declared_ns_stack", "_find_qname_aware_attrs", "_qname_aware_tags", "_rewrite_prefixes", "_exclude_tags", "_exclude_attrs", "_strip_text", "_with_comments", "_data", "_write"]
noncomputable def fE:List Str:=["useragents", "rulelines", "delay", "req_rate"]
theorem okW {P:Params}:(clsOk (KK P) 199 && fW.all (fldOk (KK P) 199)) = true:=by kernel_rfl
theorem okE {P:Params}:(clsOk (KK P) 76 && fE.all (fldOk (KK P) 76)) = true:=by kernel_rfl
inductive Cls (K:Frag) (c:Addr) (n:Str):Prop
  | mk (h:hasDictIn K c = true) (o:plainOver K c = true) (s:findIn K (.ref c) "__setattr__" = some (some (.builtin "object.__setattr__"))) (g:plainGet K c n = true) (f:findIn K (.ref c) n = some none) (t:takerIn K c n = some none)
theorem noneNone_of {x:Option (Option Value)} (h:noneNone x = true):x = some none:=by
  unfold noneNone at h
  rcases x with _ | _ | v
  · cases h
  · rfl
  · cases h
theorem anyAny {x:Option (Option Value)} {p:Value→Bool} {v:Value} (h:x.any (·.any p) = true) (hp:∀ u,p u = true→u = v):x = some (some v):=by
  rcases x with _ | _ | u
  · cases h
  · cases h
  · rw [hp u h]
theorem cls_of {K:Frag} {c:Addr} {fs:List Str} {n:Str} (h:(clsOk K c && fs.all (fldOk K c)) = true) (hn:fs.contains n = true):Cls K c n:=by
  rw [Bool.and_eq_true] at h
  obtain ⟨h1,h2⟩:=h
  have hn':n∈fs:=by simpa using hn
  have h3:=List.all_eq_true.mp h2 n hn'
  unfold fldOk at h3
  unfold clsOk at h1
  simp only [Bool.and_eq_true] at h1 h3
  exact ⟨h1.1.1,h1.1.2,anyAny h1.2 fun _=>of_decide_eq_true,h3.1.1,noneNone_of h3.1.2,noneNone_of h3.2⟩
theorem clsW {K:Frag} {P:Params} {n:Str} (hK:K = KK P) (hn:fW.contains n = true):Cls K 199 n:=by subst hK; exact cls_of okW hn
theorem clsE {K:Frag} {P:Params} {n:Str} (hK:K = KK P) (hn:fE.contains n = true):Cls K 76 n:=by subst hK; exact cls_of okE hn
noncomputable def keepFs:List Addr:=[76,199,52,66,73,87,116,124,139,169,175,182,217,224,229,236,241]
theorem okKeep {P:Params}:(keepFs.all fun a=>keepIn (KK P) (.ref a)) = true:=by kernel_rfl
theorem keep_of {K:Frag} {P:Params} {a:Addr} (hK:K = KK P) (hn:keepFs.contains a = true):keepIn K (.ref a) = true:=by
  subst hK
  exact List.all_eq_true.mp okKeep a (by simpa using hn)
theorem lk_head {n:Str} {v:Value} {m:List (Str × Value)}:List.lookup n ((n,v)::m) = some v:=by rw [List.lookup_cons]; simp
theorem lk_tail {n k:Str} {v:Value} {p:Option Value} {m:List (Str × Value)} (h:(n == k) = false) (h2:List.lookup n m = p):List.lookup n ((k,v)::m) = p:=by rw [List.lookup_cons,h]; exact h2
theorem lk_nil {n:Str}:List.lookup n ([]:List (Str × Value)) = none:=rfl
section
variable {prog:Program} {w:World} {A:Around} {E:Value→Shared→Prop} {C:Cx} {σ σ':Led} {s:Shared} {name:Str} {pv v:Value} {m:List (Str × Value)} {x d Cc:Addr}
theorem getC {Q:Value→Shared→Prop} {expr:Bool} (S:Sat C σ s) (hm:(x,.ins Cc d)∈σ) (hd:(d,.idc m)∈σ) (hc:Cls C.K Cc name) (hx:m.lookup name = some pv) (hv:handedIn pv = true) (h:∀ s',Sat C σ s'→Vs pv (fun v=>Q v s')) :
    wpAny (model prog w) A (getAttr (.ref x) name expr) Q E s:=let ⟨h1,_,_,h4,h5,_⟩:=hc; getA S hm hd hx h4 h1 h5 hv h
theorem setC {Q:Unit→Shared→Prop} (S:Sat C σ s) (hm:(x,.ins Cc d)∈σ) (U:Upd d (.idc m) (.idc ((name,er v)::m)) σ σ') (hc:Cls C.K Cc name) (hz:m.length < 1000) (h:∀ s',Sat C σ' s'→Q () s') :
    wpAny (model prog w) A (setAttr (.ref x) name v) Q E s:=let ⟨h1,h2,h3,_,_,h6⟩:=hc; setA S hm U h3 h2 h6 h1 hz h
theorem setD {Q:Unit→Shared→Prop} (S:Sat C σ s) (hm:(x,.ins Cc d)∈σ) (U:Upd d (.idc m) (.idc (repl name (er v) m)) σ σ') (hc:Cls C.K Cc name) (hi:(m.lookup name).isSome = true) (hz:m.length < 1000) (h:∀ s',Sat C σ' s'→Q () s') :
    wpAny (model prog w) A (setAttr (.ref x) name v) Q E s:=let ⟨h1,h2,h3,_,_,h6⟩:=hc; setB S hm U hi h3 h2 h6 h1 hz h
end
inductive Meth (K:Frag) (c:Addr) (n:Str) (f:Addr):Prop
  | mk (h1:plainGet K c n = true) (h2:findIn K (.ref c) n = some (some (.ref f))) (h3:typeIn K (.ref f) = some (.type "function"))
noncomputable def methOk (K:Frag) (c:Addr) (n:Str) (f:Addr):Bool:=plainGet K c n && (findIn K (.ref c) n).any (·.any (isRf f)) && (typeIn K (.ref f)).any (isTy "function")
theorem meth_of {K:Frag} {P:Params} {c:Addr} {n:Str} {f:Addr} (hK:K = KK P) (h:methOk (KK P) c n f = true):Meth K c n f:=by
  subst hK
  unfold methOk at h
  simp only [Bool.and_eq_true] at h
  refine ⟨h.1.1,anyAny h.1.2 fun _=>of_decide_eq_true,?_⟩
  have:=h.2
  cases hx:typeIn (KK P) (.ref f) with
  | none=>rw [hx] at this; cases this
  | some v =>
    rw [hx] at this
    rw [of_decide_eq_true this]
theorem okm199_iter_namespaces {P:Params}:methOk (KK P) 199 (Str.ofString "_iter_namespaces") 124 = true:=by kernel_rfl
theorem m199_iter_namespaces {K:Frag} {P:Params} (hK:K = KK P):Meth K 199 (Str.ofString "_iter_namespaces") 124:=meth_of hK okm199_iter_namespaces
theorem okm199_qname {P:Params}:methOk (KK P) 199 (Str.ofString "_qname") 139 = true:=by kernel_rfl
theorem m199_qname {K:Frag} {P:Params} (hK:K = KK P):Meth K 199 (Str.ofString "_qname") 139:=meth_of hK okm199_qname
theorem okm199start {P:Params}:methOk (KK P) 199 (Str.ofString "start") 169 = true:=by kernel_rfl
theorem m199start {K:Frag} {P:Params} (hK:K = KK P):Meth K 199 (Str.ofString "start") 169:=meth_of hK okm199start
theorem okm199_start {P:Params}:methOk (KK P) 199 (Str.ofString "_start") 175 = true:=by kernel_rfl
theorem m199_start {K:Frag} {P:Params} (hK:K = KK P):Meth K 199 (Str.ofString "_start") 175:=meth_of hK okm199_start
theorem okm199end {P:Params}:methOk (KK P) 199 (Str.ofString "end") 182 = true:=by kernel_rfl
theorem m199end {K:Frag} {P:Params} (hK:K = KK P):Meth K 199 (Str.ofString "end") 182:=meth_of hK okm199end
theorem okm76allowance {P:Params}:methOk (KK P) 76 (Str.ofString "allowance") 73 = true:=by kernel_rfl
theorem m76allowance {K:Frag} {P:Params} (hK:K = KK P):Meth K 76 (Str.ofString "allowance") 73:=meth_of hK okm76allowance
theorem okm76applies_to {P:Params}:methOk (KK P) 76 (Str.ofString "applies_to") 66 = true:=by kernel_rfl
theorem m76applies_to {K:Frag} {P:Params} (hK:K = KK P):Meth K 76 (Str.ofString "applies_to") 66:=meth_of hK okm76applies_to
section
variable {prog:Program} {w:World} {A:Around} {E:Value→Shared→Prop} {C:Cx} {σ σ':Led} {s:Shared} {name:Str} {m:List (Str × Value)} {x d Cc f:Addr}
theorem mthC {Q:Value × List Value→Shared→Prop} {pl:Sem Bool} (S:Sat C σ s) (hm:(x,.ins Cc d)∈σ) (hd:(d,.idc m)∈σ) (hc:Meth C.K Cc name f) (hx:m.lookup name = none) (h:Q (.ref f,[.ref x]) s) :
    wpAny (model prog w) A (getMethod (.ref x) name pl) Q E s:=let ⟨h1,h2,h3⟩:=hc; mth S hm hd hx h1 h2 h3 h
end
section
variable {prog:Program} {w:World} {A:Around} {E:Value→Shared→Prop} {C:Cx} {σ σ' τ:Led} {s:Shared} {a l x d Cc:Addr} {xs:List Value} {env:Env} {name:Str} {m:List (Str × Value)} {pv:Value}
theorem mthOwn {Q:Value × List Value→Shared→Prop} {pl:Sem Bool} (S:Sat C σ s) (hm:(x,.ins Cc d)∈σ) (hd:(d,.idc m)∈σ) (hc:Cls C.K Cc name) (hx:m.lookup name = some pv) (hv:handedIn pv = true) (h:∀ s',Sat C σ s'→Vs pv (fun v=>Q (v,[]) s')) :
    wpAny (model prog w) A (getMethod (.ref x) name pl) Q E s:=by
  obtain ⟨od,es,ep,I,ho,e,k,ff,z⟩:=S.inst hm hd
  obtain ⟨h1,h2,h3,h4,h5,h6⟩:=id hc
  refine method_usual S.kin I (plainGet_of h4).1 (plainGet_of h4).2 h5 rfl ?_
  exact getC S hm hd hc hx hv fun s' S'=>by
    have:=h s' S'
    cases pv <;> exact this
theorem callWith_B {id:String} {self:Value} {pos:Pos} {first:List Value} {e:Expr} {rest:List Expr} {Q:Value→Shared→Prop} (_S:Sat C σ s) (_ha:(a,.raw (bndO id self))∈σ)
    (h:wpAny (model prog w) A (spliced (backTo pos (starEach (e::rest) env))) (fun vs s₁=>∃ σ',Sat C σ' s₁∧(a,.raw (bndO id self))∈σ'∧wpAny (model prog w) A (call (.ref a) (first ++ vs)) Q E s₁) E s)
    (he:starEach (e::rest) env = (false,eval e env)::starEach rest env:=by rfl) (hplain:(backTo pos (starEach rest env)).any (·.1) = false:=by rfl) :
    wpAny (model prog w) A (callWith pos (.ref a) first (backTo pos (starEach (e::rest) env)) []) Q E s:=by
  rw [he] at h ⊢
  refine callWith_of (P:=fun h=>h.get? a = some (bndO id self)) (by show ((false || (backTo pos (starEach rest env)).any (·.1)) || false) = false; rw [hplain]; rfl) (fun h hp=>⟨.machine,.inr (.inl rfl),(Looks.ld (part:=none) hp).andThen .now⟩) (evalArgs_plain (wpAny_mono h (fun vs s₁ h₁=>?_) fun _ _ e=>e))
  obtain ⟨σ',S',ha,h'⟩:=h₁
  obtain ⟨o,ho,hp⟩:=S'.get ha
  have hp:o = _:=hp
  subst hp
  exact ⟨ho,h'⟩
end
section
variable {prog:Program} {w:World} {A:Around} {E:Value→Shared→Prop} {C:Cx} {σ:Led} {s:Shared} {env:Env}
theorem ifF {c:Bool} {a b:Prop} (h:c = false) (x:b):if c = true then a else b:=by rw [h]; exact x
theorem ifT {c:Bool} {a b:Prop} (h:c = true) (x:a):if c = true then a else b:=by rw [h]; exact x
theorem fits {n:Nat} (h:n≤1000000):Builtin.Str.tooLong n = false:=by unfold Builtin.Str.tooLong; rw [decide_eq_false_iff_not,sizeLine_eq]; wtm_at "om"
theorem callP {nm qual:Str} {params:Arguments} {body:List Stmt} {scope:Scope} {cl:List (Str × Addr)} {dV kV doc pm cdv ct oc:Value} {an od:Option Addr} {osl:Array (Option Value)} {args:List Value} {f:Addr} {Q:Value→Shared→Prop} {m:List (Str × Value)}
    (S:Sat C σ s) (hroom:A.depth < recursionLimit) (ho:C.K.lookup f = some ⟨oc,od,.func (fnX nm qual params body scope cl dV kV doc pm an cdv ct),osl⟩) (hcd:codeIn C.K cdv qual = true)
    (hbind:bindArgs (fnX nm qual params body scope cl dV kV doc pm an cdv ct) ⟨args,[]⟩ = pure ((params.args.map (·.arg)).zip args)) (hloc:((params.args.map (·.arg)).all fun y=>scope.names.lookup y == some .local) = true)
    (hm:((params.args.map (·.arg)).zip args).reverse.map (fun y=>(y.1,er y.2)) = m)
    (h:∀ L s',Sat C ((L,.ns m)::σ) s' →
      wpAny (model prog w) (A.deeper (envX qual scope L f cdv cl)) (execs body (envX qual scope L f cdv cl)) (fun fl s''=>Q (match fl with | .ret v=>v | _=>.none) s'') (fun _ _=>False) s')
    (hco:scope.isCoroutine = false:=by rfl) (hgen:scope.isGenerator = false:=by rfl) (hk:scope.kind = .function:=by rfl) (hcell:∀ x∈scope.names,x.2 ≠ .cell:=by decide) :
    wpAny (model prog w) A (call (.ref f) args) Q E s:=by
  subst hm
  refine callFn (args:=⟨args,[]⟩) S hroom ho hcd (.of_eq hbind) (fun y hy=>?_) h hco hgen hk hcell
  have:=List.all_eq_true.mp hloc y.1 (List.of_mem_zip hy).1
  exact beq_iff_eq.mp this
theorem cstr {x:Str} {k:Nat} {pos:Pos} {Q:Value→Shared→Prop} (S:Sat C σ s) (h:∀ t s',Sat C σ s'→Q (.str x t) s'):wpAny (model prog w) A (eval (.Constant (.str x) k pos) env) Q E s:=wpAny_Constant_str (h _ _ (S.tok _))
theorem cint {i:Int} {k:Nat} {pos:Pos} {Q:Value→Shared→Prop} (S:Sat C σ s) (h:∀ t s',Sat C σ s'→Q (.int i t) s'):wpAny (model prog w) A (eval (.Constant (.int i) k pos) env) Q E s:=wpAny_Constant_int (h _ _ (S.tok _))
theorem strs_er (l:List (Str × Tok)):((strValues l).toArray.toList.map er) = (l.map (·.1)).map fun x=>Value.str x 0:=by
  simp only [strValues,List.map_map]
  rfl
theorem splitS {x y:Str} {t u:Tok} {Q:Value→Shared→Prop} (S:Sat C σ s) (hy:(y.length == 0) = false) (hx:x.length≤1000000) (hn:(Txt.split x y).length≤1000000)
    (h:∀ D s',Sat C ((D,.lst ((Txt.split x y).map fun z=>.str z 0))::σ) s'→Q (.ref D) s'):wpAny (model prog w) A (call (.builtin "str.split") [.str x t,.str y u]) Q E s:=by
  have hsz:x.length≤sizeLine:=by rw [sizeLine_eq]; wtm_at "om"
  have key:∀ (l:List (Str × Tok)) k,l.map (·.1) = Txt.split x y→0 < k→Q (.ref s.heap.objs.size) { s with toks:=k,heap:=s.heap.push { cls:=.type "list", data:=.seq (strValues l).toArray } }   := fun l k e hk=>by
    refine h _ _ (S.push (p:=.lst _) ⟨_,0,rfl,?_⟩ rfl k)
    rw [strs_er,e]
  cases h1:(decide (x.length < y.length) || decide (Builtin.Str.strKind x < Builtin.Str.strKind y))
  · cases hf:(Builtin.Str.occurrences x y 0 x.length (x.length + 1)).isEmpty
    · have hsz2:(Builtin.Str.partsBetween x (Builtin.Str.occurrences x y 0 x.length (x.length + 1)) y.length).length≤sizeLine:=by
        rw [sizeLine_eq]
        have e:Txt.split x y = Builtin.Str.partsBetween x (Builtin.Str.occurrences x y 0 x.length (x.length + 1)) y.length:=((if_neg (ne_true_of_eq_false h1)).trans (if_neg (ne_true_of_eq_false hf)))
        rw [e] at hn
        wtm_at "om"
      refine call_meets F.slot_str_split (typeIs_str _ _ _) F.entry_str_split (F.args_str_split_2 _ _) (meets_str_split_sep x y t u h1 hy hf hsz hsz2) ?_
      show wants Q E _ { s with toks:=_,heap:=s.heap.push { cls:=.type "list", data:=.seq (strsFrom s.toks (Builtin.Str.partsBetween x (Builtin.Str.occurrences x y 0 x.length (x.length + 1)) y.length)).toArray } }
      rw [strsFrom_eq]
      exact key (numbered s.toks _) _ ((numbered_texts _ _).trans ((if_neg (ne_true_of_eq_false h1)).trans (if_neg (ne_true_of_eq_false hf))).symm) (by wtm_at "r_pos")
    · exact call_meets F.slot_str_split (typeIs_str _ _ _) F.entry_str_split (F.args_str_split_2 _ _) (meets_str_split_not_found x y t u h1 hy hf)
        (key [(x,t)] _ ((if_neg (ne_true_of_eq_false h1)).trans (if_pos hf)).symm (by wtm_at "r_pos"))
  · exact call_meets F.slot_str_split (typeIs_str _ _ _) F.entry_str_split (F.args_str_split_2 _ _) (meets_str_split_cannot_occur x y t u h1)
      (key [(x,t)] _ (if_pos h1).symm (by wtm_at "r_pos"))
theorem itemL {value slice:Expr} {l:Addr} {xs:List Value} {k:Int} {u:Tok} {pv:Value} {Q:Value→Shared→Prop} (S:Sat C σ s) (hl:(l,.lst xs)∈σ) (h0:0≤k) (hfit:k < 2 ^ 63) (hx:xs[k.toNat]? = some pv) (h:Vs pv (fun v=>Q v s))
    (hs:subscripted slice false (.ref l) (.int k u) = operate [.ref l,.int k u] (getItem (.ref l) (.int k u)):=by with_unfolding_all rfl) :
    wpAny (model prog w) A (subscriptTail value slice (.ref l) (.int k u)) Q E s:=by
  obtain ⟨its,hL,he⟩:=S.isList hl
  rw [← he,List.getElem?_map] at hx
  obtain ⟨v,hv,e⟩:=Option.map_eq_some_iff.mp hx
  exact tail_any hL.typeIs slot_list_getitem.lookup (wpAny_getItem_list (x:=v) hL h0 hfit (by simpa using hv) (h.get e)) hs
end
section
variable {prog:Program} {w:World} {A:Around} {E:Value→Shared→Prop} {C:Cx} {σ:Led} {s:Shared} {Q:Value→Shared→Prop}
theorem callCP {R:Result→Shared→Prop} {nm qual:Str} {params:Arguments} {body:List Stmt} {scope:Scope} {cl:List (Str × Addr)} {dV kV doc pm cdv ct oc:Value} {an od:Option Addr} {osl:Array (Option Value)} {args:List Value} {f:Addr} {m:List (Str × Value)}
    (S:Sat C σ s) (hroom:A.depth < recursionLimit) (ho:C.K.lookup f = some ⟨oc,od,.func (fnX nm qual params body scope cl dV kV doc pm an cdv ct),osl⟩) (hcd:codeIn C.K cdv qual = true)
    (hbind:bindArgs (fnX nm qual params body scope cl dV kV doc pm an cdv ct) ⟨args,[]⟩ = pure ((params.args.map (·.arg)).zip args)) (hloc:((params.args.map (·.arg)).all fun y=>scope.names.lookup y == some .local) = true)
    (hm:((params.args.map (·.arg)).zip args).reverse.map (fun y=>(y.1,er y.2)) = m)
    (h:∀ L s',Sat C ((L,.ns m)::σ) s' →
      wpAny (model prog w) (A.deeper (envX qual scope L f cdv cl)) (execs body (envX qual scope L f cdv cl)) (fun fl s''=>R (.ok (.ret (match fl with | .ret v=>v | _=>.none))) s'') (fun _ _=>False) s')
    (hco:scope.isCoroutine = false:=by rfl) (hgen:scope.isGenerator = false:=by rfl) (hk:scope.kind = .function:=by rfl) (hcell:∀ x∈scope.names,x.2 ≠ .cell:=by decide) :
    codeAny (model prog w) A (.call (.ref f) ⟨args,[]⟩) R s:=by
  subst hm
  refine callFnC (args:=⟨args,[]⟩) S hroom ho hcd (.of_eq hbind) (fun y hy=>?_) h hco hgen hk hcell
  have:=List.all_eq_true.mp hloc y.1 (List.of_mem_zip hy).1
  exact beq_iff_eq.mp this
noncomputable def entryF (u r:Addr):List (Str × Value):=[(Str.ofString "req_rate", .none),(Str.ofString "delay", .none),(Str.ofString "rulelines", .ref r),(Str.ofString "useragents", .ref u)]
end
section
variable {prog:Program} {w:World} {A:Around} {E:Value→Shared→Prop} {C:Cx} {σ:Led} {s:Shared} {a:Addr} {t:Tok} {env:Env}
theorem locAll {binds:List (Str × Value)} {names:List (Str × NameKind)} (h:(binds.all fun y=>names.lookup y.1 == some NameKind.local) = true):∀ y∈binds,names.lookup y.1 = some .local:=fun y hy=>beq_iff_eq.mp (List.all_eq_true.mp h y hy)
theorem Upd.same {a:Addr} {p:PO} {σ σ':Led} (U:Upd a p p σ σ') (_:(σ.map (·.1)).Nodup):σ' = σ:=by
  induction U with
  | head=>rfl
  | tail U ih=>rename_i nd; rw [ih (by rw [List.map_cons,List.nodup_cons] at nd; exact nd.2)]
theorem truthyT {x:Str} {Q:Bool→Shared→Prop} (S:Sat C σ s) (hz:x.length≤1000000) (h:∀ s',Sat C σ s'→Q (!(x.length == 0)) s'):wpAny (model prog w) A (truthy (.str x t)) Q E s:=by
  refine P.truthy_str (by wtm_at "om") ?_
  have : ((x.length:Int) != 0) = !(x.length == 0):=by
    cases x.length <;> rfl
  rw [this]
  exact h _ (S.tok _)
end
section
variable {prog:Program} {w:World} {A:Around} {E:Value→Shared→Prop} {C:Cx} {σ σ' σ'':Led} {s:Shared} {Q:Value→Shared→Prop} {x y:Str} {t u:Tok} {env:Env} {T:Addr} {xs:List Value}
theorem Sat.grown (S:Sat C σ s) {h':Heap} (k:∀ b o,s.heap.get? b = some o→h'.get? b = some o):Sat C σ { s with heap:=h' }:=by
  refine ⟨S.old.step_keeps k,?_,fun q hq=>?_,S.low,S.nd,S.os,S.gens,S.gl,S.tk,fun q hq=>(S.lam q hq).step (fun o e=>k _ o e) (fun b o _ e=>k b o e) fun c _ hn=>hn⟩
  · obtain ⟨mc,⟨oc,es,ep,hc,_⟩,_⟩:=C.lim
    exact (k _ _ (S.stat.trans hc)).trans hc.symm
  · obtain ⟨x,hx,h⟩:=S.led q hq; exact ⟨x,k _ _ hx,h⟩
theorem two_of {α:Type} {l:List α} (h:l.length = 2):∃ a b,l = [a,b]:=by
  cases l with
  | nil=>cases h
  | cons a r=>cases r with
    | nil=>simp at h
    | cons b q=>cases q with
      | nil=>exact ⟨a,b,rfl⟩
      | cons _ _=>simp at h
theorem assignT2 {e₁ e₂:Expr} {k:Nat} {pos:Pos} {p₁ p₂:Value} {Q:Unit→Shared→Prop} (hh:A.handled = none) (S:Sat C σ s) (hT:(T,.tup [p₁,p₂])∈σ)
    (he:(assignEach [e₁,e₂] env).map (·.2) = [assign e₁ env,assign e₂ env]) (hst:(assignEach [e₁,e₂] env).findIdx? (·.1) = none)
    (h:∀ s',Sat C σ s'→Vs p₁ (fun v₁=>Vs p₂ (fun v₂=>wpAny (model prog w) A (assign e₁ env v₁) (fun _ s₁=>wpAny (model prog w) A (assign e₂ env v₂) Q E s₁) E s'))) :
    wpAny (model prog w) A (assign (.Tuple [e₁,e₂] k pos) env (.ref T)) Q E s:=by
  obtain ⟨o,ho,its,n,rfl,e⟩:=S.get hT
  have hsz:its.size = 2:=by
    have:=congrArg List.length e
    rw [List.length_map,Array.length_toList] at this; exact this
  obtain ⟨v₁,v₂,rfl⟩:∃ v₁ v₂,its = #[v₁,v₂]:=by
    obtain ⟨l⟩:=its
    obtain ⟨a,b,rfl⟩:=two_of (l:=l) hsz
    exact ⟨a,b,rfl⟩
  have e1:er v₁ = p₁:=by injection e
  have e2:er v₂ = p₂:=by injection e with _ e; injection e
  have hl:(assignEach [e₁,e₂] env).length = 2:=by rw [← List.length_map (f:=(·.2)),he]; rfl
  refine wpAny_assign_Tuple hh ⟨_,ho,rfl,n,rfl⟩ hl hst fun h' hx=>?_
  rw [he]
  have S':=S.grown (h':=h') fun b o e=>hx b o (Nat.ne_of_lt (Heap.lt_size e)) e
  have z:=((h _ S').get e1).get e2
  refine wpAny_assignInOrder_more (wpAny_mono z (fun _ s₁ h₁=>wpAny_assignInOrder_more (wpAny_mono h₁ (fun _ s₂ h₂=>wpAny_assignInOrder_none h₂) fun _ _ e=>e)) fun _ _ e=>e)
end
noncomputable def T (prog:Program) (w:World) (C:Cx) (A:Around) (σ:Led) {α:Type} (t:Sem α) (Q:α→Led→Prop) (E:Value→Led→Prop):Prop :=
  ∀ s,Sat C σ s→wpAny (model prog w) A t (fun a s'=>∃ σ',Q a σ'∧Sat C σ' s') (fun e s'=>∃ σ',E e σ'∧Sat C σ' s') s
noncomputable def TC (prog:Program) (w:World) (C:Cx) (A:Around) (σ:Led) (c:Code) (R:Result→Led→Prop):Prop :=
  ∀ s,Sat C σ s→codeAny (model prog w) A c (fun r s'=>∃ σ',R r σ'∧Sat C σ' s') s
noncomputable abbrev NoE:Value→Led→Prop:=fun _ _=>False
noncomputable def Up {α:Type} (Q:α→Led→Prop) (a:α) (σ:Led):Prop:=∃ σ',σ'.Sublist σ∧Q a σ'
section
variable {prog:Program} {w:World} {C:Cx} {A:Around} {σ σ' τ:Led} {α β:Type} {E:Value→Led→Prop} {env:Env} {s:Shared}
theorem T.k {t:Sem α} {Q:α→Led→Prop} {G:α→Shared→Prop} (h:T prog w C A σ t Q E) (S:Sat C σ s) (hF:∀ a σ' s',Q a σ'→Sat C σ' s'→G a s') :
    wpAny (model prog w) A t G (fun e s'=>∃ σ',E e σ'∧Sat C σ' s') s:=wpAny_mono (h s S) (fun a s' ⟨σ',h',S'⟩=>hF a σ' s' h' S') fun _ _ e=>e
theorem T.kN {t:Sem α} {Q:α→Led→Prop} {G:α→Shared→Prop} {E':Value→Shared→Prop} (h:T prog w C A σ t Q NoE) (S:Sat C σ s) (hF:∀ a σ' s',Q a σ'→Sat C σ' s'→G a s') :
    wpAny (model prog w) A t G E' s:=wpAny_mono (h s S) (fun a s' ⟨σ',h',S'⟩=>hF a σ' s' h' S') fun _ _ ⟨_,e,_⟩=>e.elim
theorem T.mono {t:Sem α} {Q Q':α→Led→Prop} {E':Value→Led→Prop} (h:T prog w C A σ t Q E) (hq:∀ a σ',Q a σ'→Q' a σ') (he:∀ e σ',E e σ'→E' e σ'):T prog w C A σ t Q' E' :=
  fun s S=>wpAny_mono (h s S) (fun _ _ ⟨σ',a,b⟩=>⟨σ',hq _ _ a,b⟩) fun _ _ ⟨σ',a,b⟩=>⟨σ',he _ _ a,b⟩
theorem T.drop {t:Sem α} {Q:α→Led→Prop} (h:T prog w C A σ' t Q E) (hs:σ'.Sublist σ):T prog w C A σ t Q E:=fun s S=>h s (S.sub hs)
theorem T.perm {t:Sem α} {Q:α→Led→Prop} (h:T prog w C A σ' t Q E) (hs:σ.Perm σ'):T prog w C A σ t Q E:=fun s S=>h s (S.perm hs)
theorem T.pure {a:α} {Q:α→Led→Prop} (h:Q a σ):T prog w C A σ (Pure.pure a:Sem α) Q E:=fun _ S=>wpAny_pure ⟨_,h,S⟩
theorem T.bind {m:Sem α} {f:α→Sem β} {Q:β→Led→Prop} (h:T prog w C A σ m (fun a σ'=>T prog w C A σ' (f a) Q E) E):T prog w C A σ (m >>= f) Q E :=
  fun _ S=>wpAny_bind (h.k S fun _ _ _ h' S'=>h' _ S')
theorem T.standAt {p:Pos} {Q:Unit→Led→Prop} (h:Q () σ):T prog w C A σ (standAt p) Q E:=fun _ S=>wpAny_standAt ⟨_,h,S⟩
theorem T.holding {vs:List Value} {t:Sem α} {Q:α→Led→Prop} (h:T prog w C A σ t Q E):T prog w C A σ (holding vs t) Q E:=fun _ S=>wpAny_holding (h _ S)
theorem Vs.mono {p:Value} {P P':Value→Prop} (h:Vs p P) (hp:∀ v,P v→P' v):Vs p P':=by
  cases p <;> first | exact fun t=>hp _ (h t) | exact hp _ h
noncomputable def VsQ (p:Value) (Q:Value→Led→Prop) (σ:Led):Prop:=Vs p fun v=>Q v σ
theorem VsQ_ref {a:Addr} {Q:Value→Led→Prop} {σ:Led} (h:Q (.ref a) σ):VsQ (.ref a) Q σ:=h
theorem VsQ_none {Q:Value→Led→Prop} {σ:Led} (h:Q .none σ):VsQ .none Q σ:=h
theorem VsQ_bool {b:Bool} {Q:Value→Led→Prop} {σ:Led} (h:Q (.bool b) σ):VsQ (.bool b) Q σ:=h
theorem VsQ_str {x:Str} {u:Tok} {Q:Value→Led→Prop} {σ:Led} (h:∀ t,Q (.str x t) σ):VsQ (.str x u) Q σ:=h
theorem VsQ_int {i:Int} {u:Tok} {Q:Value→Led→Prop} {σ:Led} (h:∀ t,Q (.int i t) σ):VsQ (.int i u) Q σ:=h
theorem Vs.led {p:Value} {Q:Value→Led→Prop} {C:Cx} {σ:Led} {s:Shared} (h:Vs p fun v=>Q v σ) (S:Sat C σ s):Vs p fun v=>∃ σ',Q v σ'∧Sat C σ' s:=h.mono fun _ hq=>⟨_,hq,S⟩
theorem T_nil {Q:Flow→Led→Prop} (h:Q .next σ):T prog w C A σ (execs [] env) Q E:=fun _ S=>wpAny_execs_nil ⟨_,h,S⟩
theorem T_cons {st:Stmt} {rest:List Stmt} {Q:Flow→Led→Prop} (h:T prog w C A σ (exec st env) (fun f σ'=>match f with | .next=>T prog w C A σ' (execs rest env) Q E | f=>Q f σ') E):T prog w C A σ (execs (st::rest) env) Q E :=
  fun _ S=>wpAny_execs_cons (h.k S fun f _ _ h' S'=>by cases f <;> first | exact h' _ S' | exact ⟨_,h',S'⟩)
theorem T_If {test:Expr} {body orelse:List Stmt} {pos:Pos} {Q:Flow→Led→Prop}
    (h:T prog w C A σ (isTrue test env (eval test env)) (fun b σ'=>if b = true then T prog w C A σ' (execs body env) Q E else T prog w C A σ' (execs orelse env) Q E) E):T prog w C A σ (exec (.If test body orelse pos) env) Q E :=
  fun _ S=>wpAny_If (h.k S fun b _ _ h' S'=>by cases b <;> exact h' _ S')
theorem T_Return {e:Expr} {pos:Pos} {Q:Flow→Led→Prop} (h:T prog w C A σ (eval e env) (fun v=>Q (.ret v)) E):T prog w C A σ (exec (.Return (some e) pos) env) Q E :=
  fun _ S=>wpAny_Return_some (h.k S fun _ _ _ h' S'=>⟨_,h',S'⟩)
theorem T_Return0 {pos:Pos} {Q:Flow→Led→Prop} (h:Q (.ret .none) σ):T prog w C A σ (exec (.Return none pos) env) Q E:=fun _ S=>wpAny_Return_none ⟨_,h,S⟩
theorem T_AssignN {x:Str} {pos':Pos} {value:Expr} {pos:Pos} {Q:Flow→Led→Prop} (h:T prog w C A σ (eval value env) (fun v σ₁=>T prog w C A σ₁ (storeName env x v) (fun _=>Q .next) E) E)
    (hs:swapsWith value (some (.Name x pos')) pos.line env = Pure.pure false:=by with_unfolding_all rfl):T prog w C A σ (exec (.Assign [.Name x pos'] value pos) env) Q E :=
  fun _ S=>wpAny_Assign_Name (hs:=hs) (h.k S fun _ _ _ h' S'=>h' _ S')
theorem T_AssignA {o:Expr} {attr:Str} {pos':Pos} {value:Expr} {pos:Pos} {Q:Flow→Led→Prop}
    (h:T prog w C A σ (eval value env) (fun v σ₁=>T prog w C A σ₁ (eval o env) (fun ov σ₂=>T prog w C A σ₂ (setAttr ov attr v) (fun _=>Q .next) E) E) E)
    (hs:swapsWith value (some (.Attribute o attr pos')) pos.line env = Pure.pure false:=by with_unfolding_all rfl):T prog w C A σ (exec (.Assign [.Attribute o attr pos'] value pos) env) Q E :=
  fun _ S=>plainObj_wpAny_Assign_Attribute (h.k S fun _ _ _ h' S'=>h'.k S' fun _ _ _ h'' S''=>h'' _ S'') hs
theorem T_AugA {o value:Expr} {attr:Str} {tpos pos:Pos} {op:Operator} {Q:Flow→Led→Prop}
    (h:T prog w C A σ (eval o env) (fun ov σ₁=>T prog w C A σ₁ (getAttr ov attr true) (fun old σ₂=>T prog w C A σ₂ (eval value env) (fun v σ₃=>T prog w C A σ₃ (inplaceOp op old v) (fun new σ₄=>T prog w C A σ₄ (setAttr ov attr new) (fun _=>Q .next) E) E) E) E) E) :
    T prog w C A σ (exec (.AugAssign (.Attribute o attr tpos) op value pos) env) Q E :=
  fun _ S=>wpAny_AugAssign_AttributeAny (h.k S fun _ _ _ h S=>h.k S fun _ _ _ h S=>h.k S fun _ _ _ h S=>h.k S fun _ _ _ h S=>h _ S)
theorem T_Expr {e:Expr} {pos:Pos} {Q:Flow→Led→Prop} (h:T prog w C A σ (eval e env) (fun _=>Q .next) E) (hi:interactive env = false:=by with_unfolding_all rfl) (hs:swapsWith e none pos.line env = Pure.pure false:=by with_unfolding_all rfl) :
    T prog w C A σ (exec (.Expr e pos) env) Q E:=fun _ S=>wpAny_Expr_any (h.k S fun _ _ _ h' S'=>⟨_,h',S'⟩) hi hs
theorem T_For {target iter:Expr} {body orelse:List Stmt} {pos:Pos} {Q:Flow→Led→Prop}
    (h:T prog w C A σ (eval iter env) (fun x σ₁=>T prog w C A σ₁ (pyIter x) (fun it σ₂=>TC prog w C A σ₂ (.forLoop target it body orelse env) (fun r σ'=>match r with | .ok f=>Q f σ' | .error _=>False)) E) E)
    (hf:∀ x,foldedSetIterable iter env x = Pure.pure x:=by intro _; rfl):T prog w C A σ (exec (.For target iter body orelse pos) env) Q E :=
  fun _ S=>wpAny_For (h.k S fun _ _ _ h S=>h.k S fun _ _ _ h S=>codeAny_mono (h _ S) fun r s' ⟨σ',hr,S'⟩=>by
    cases r with
    | ok f=>exact ⟨σ',hr,S'⟩
    | error e=>exact hr.elim) hf
theorem T_AssignS {targets:List Expr} {value:Expr} {pos:Pos} {Q:Flow→Led→Prop}
    (h:T prog w C A σ (eval value env) (fun v σ₁=>T prog w C A σ₁ (assignAll v ((assignEach targets env).map (·.2))) (fun _=>Q .next) E) E)
    (h1:swapsWithSole targets value pos.line env = Pure.pure false) (h2:swappedStores targets value env = Pure.pure none):T prog w C A σ (exec (.Assign targets value pos) env) Q E :=
  fun _ S=>wpAny_Assign_stores (h.k S fun _ _ _ h S=>h.k S fun _ _ _ h S=>⟨_,h,S⟩) h1 h2
theorem T_tCmp {l r:Expr} {op:CmpOp} {pos:Pos} {whole:Sem Value} {Q:Bool→Led→Prop}
    (h:T prog w C A σ (eval l env) (fun a σ₁=>T prog w C A σ₁ (eval r env) (fun b σ₂=>T prog w C A σ₂ (compareOp op a b) (fun c σ₃=>T prog w C A σ₃ (truthy c) Q E) E) E) E)
    (hb:behindInMarks op r = false:=by with_unfolding_all rfl):T prog w C A σ (isTrue (.Compare l [op] [r] pos) env whole) Q E :=
  fun _ S=>wpAny_isTrue_Compare1 (h.k S fun _ _ _ h S=>h.k S fun _ _ _ h S=>h.k S fun _ _ _ h S=>h _ S) hb
theorem T_tNot {x:Expr} {pos:Pos} {whole:Sem Value} {Q:Bool→Led→Prop} (h:T prog w C A σ (isTrue x env (eval x env)) (fun c σ'=>Q (!c) σ') E):T prog w C A σ (isTrue (.UnaryOp .Not x pos) env whole) Q E :=
  fun _ S=>isTrue_not (h.k S fun _ _ _ h S=>⟨_,h,S⟩)
theorem T_tAnd {x:Expr} {rest:List Expr} {pos:Pos} {whole:Sem Value} {Q:Bool→Led→Prop}
    (h:T prog w C A σ (isTrue x env (eval x env)) (fun c σ'=>if c = true then T prog w C A σ' (isTrue (.BoolOp .And rest pos) env whole) Q E else Q false σ') E):T prog w C A σ (isTrue (.BoolOp .And (x::rest) pos) env whole) Q E :=
  fun _ S=>isTrue_and (h.k S fun c _ _ h S=>by cases c <;> first | exact ⟨_,h,S⟩ | exact h _ S)
theorem T_tAnd0 {pos:Pos} {whole:Sem Value} {Q:Bool→Led→Prop} (h:Q true σ):T prog w C A σ (isTrue (.BoolOp .And [] pos) env whole) Q E:=fun _ S=>isTrue_and_nil ⟨_,h,S⟩
theorem T_tOr {x:Expr} {rest:List Expr} {pos:Pos} {whole:Sem Value} {Q:Bool→Led→Prop}
    (h:T prog w C A σ (isTrue x env (eval x env)) (fun c σ'=>if c = true then Q true σ' else T prog w C A σ' (isTrue (.BoolOp .Or rest pos) env whole) Q E) E):T prog w C A σ (isTrue (.BoolOp .Or (x::rest) pos) env whole) Q E :=
  fun _ S=>isTrue_or (h.k S fun c _ _ h S=>by cases c <;> first | exact h _ S | exact ⟨_,h,S⟩)
theorem T_tOr0 {pos:Pos} {whole:Sem Value} {Q:Bool→Led→Prop} (h:Q false σ):T prog w C A σ (isTrue (.BoolOp .Or [] pos) env whole) Q E:=fun _ S=>isTrue_or_nil ⟨_,h,S⟩
theorem T_tV {e:Expr} {whole:Sem Value} {Q:Bool→Led→Prop} (h:T prog w C A σ whole (fun v σ₁=>T prog w C A σ₁ (truthy v) Q E) E)
    (he:isTrue e env whole = (do let v ← whole; PySem.standAt e.pos; PySem.holding [v] (truthy v)):=by with_unfolding_all rfl):T prog w C A σ (isTrue e env whole) Q E:=fun _ S=>isTrue_plain (h.k S fun _ _ _ h S=>h _ S) he
theorem T_Cmp {l r:Expr} {op:CmpOp} {pos:Pos} {Q:Value→Led→Prop} (h:T prog w C A σ (eval l env) (fun a σ₁=>T prog w C A σ₁ (eval r env) (fun b σ₂=>T prog w C A σ₂ (compareOp op a b) Q E) E) E)
    (hb:behindInMarks op r = false:=by with_unfolding_all rfl):T prog w C A σ (eval (.Compare l [op] [r] pos) env) Q E:=fun _ S=>wpAny_Compare1 (h.k S fun _ _ _ h S=>h.k S fun _ _ _ h S=>h _ S) hb
theorem T_cNone {k:Nat} {pos:Pos} {Q:Value→Led→Prop} (h:Q .none σ):T prog w C A σ (eval (.Constant .none k pos) env) Q E:=fun _ S=>wpAny_Constant_none ⟨_,h,S⟩
theorem T_cBool {b:Bool} {k:Nat} {pos:Pos} {Q:Value→Led→Prop} (h:Q (.bool b) σ):T prog w C A σ (eval (.Constant (.bool b) k pos) env) Q E:=fun _ S=>wpAny_Constant_bool ⟨_,h,S⟩
theorem T_cStr {x:Str} {k:Nat} {pos:Pos} {Q:Value→Led→Prop} (h:∀ t,Q (.str x t) σ):T prog w C A σ (eval (.Constant (.str x) k pos) env) Q E:=fun _ S=>cstr S fun t _ S'=>⟨_,h t,S'⟩
theorem T_cInt {i:Int} {k:Nat} {pos:Pos} {Q:Value→Led→Prop} (h:∀ t,Q (.int i t) σ):T prog w C A σ (eval (.Constant (.int i) k pos) env) Q E:=fun _ S=>cint S fun t _ S'=>⟨_,h t,S'⟩
theorem T_Name {x:Str} {pos:Pos} {Q:Value→Led→Prop} (h:T prog w C A σ (loadName env x) Q E) (hd:(x == ("__debug__" : Str)) = false:=by with_unfolding_all rfl):T prog w C A σ (eval (.Name x pos) env) Q E:=fun _ S=>wpAny_Name (h _ S) hd
theorem T_List {elts:List Expr} {pos:Pos} {Q:Value→Led→Prop} (h:T prog w C A σ (spliced (backTo pos (starEach elts env))) (fun vs σ'=>vs.length≤1000∧∀ D,Q (.ref D) ((D,.lst (vs.map er))::σ')) E):T prog w C A σ (eval (.List elts pos) env) Q E :=
  fun _ S=>evL S (h.k S fun _ _ _ h S=>⟨_,S,h.1,fun D _ S'=>⟨_,h.2 D,S'⟩⟩)
theorem T_Tuple {elts:List Expr} {k:Nat} {pos:Pos} {Q:Value→Led→Prop} (h:T prog w C A σ (spliced (backTo pos (starEach elts env))) (fun vs σ'=>vs.length≤1000∧∀ D,Q (.ref D) ((D,.tup (vs.map er))::σ')) E):T prog w C A σ (eval (.Tuple elts k pos) env) Q E :=
  fun _ S=>evT S (h.k S fun _ _ _ h S=>⟨_,S,h.1,fun D _ S'=>⟨_,h.2 D,S'⟩⟩)
theorem T_Dict0 {pos:Pos} {Q:Value→Led→Prop} (h:∀ D,Q (.ref D) ((D,.raw emptyDict)::σ)):T prog w C A σ (eval (.Dict [] [] pos) env) Q E:=fun _ S=>evD0 S fun D _ S'=>⟨_,h D,S'⟩
theorem T_IfExp {test body orelse:Expr} {pos:Pos} {Q:Value→Led→Prop} (h:T prog w C A σ (isTrue test env (eval test env)) (fun b σ'=>if b = true then T prog w C A σ' (eval body env) Q E else T prog w C A σ' (eval orelse env) Q E) E) :
    T prog w C A σ (eval (.IfExp test body orelse pos) env) Q E:=fun _ S=>wpAny_IfExp (h.k S fun b _ _ h S=>by cases b <;> exact h _ S)
theorem T_Bin {l r:Expr} {op:Operator} {pos:Pos} {Q:Value→Led→Prop} (h:T prog w C A σ (eval l env) (fun a σ₁=>T prog w C A σ₁ (eval r env) (fun b σ₂=>T prog w C A σ₂ (binaryOp op a b) Q E) E) E):T prog w C A σ (eval (.BinOp l op r pos) env) Q E :=
  fun _ S=>wpAny_BinOp (h.k S fun _ _ _ h S=>h.k S fun _ _ _ h S=>h _ S)
theorem T_MCall {o:Expr} {name:Str} {apos pos:Pos} {args:List Expr} {pl:Sem Bool} {Q:Value→Led→Prop}
    (h:T prog w C A σ (eval o env) (fun ov σ₁=>T prog w C A σ₁ (getMethod ov name pl) (fun fx σ₂=>T prog w C A σ₂ (callWith pos fx.1 fx.2 (backTo pos (starEach args env)) []) Q E) E) E)
    (he:eval (.Call (.Attribute o name apos) args [] pos) env = (do
        let ov ← eval o env
        PySem.standAt apos.atName
        let (f,first) ← PySem.holding [ov] (getMethod ov name pl)
        callWith pos f first (backTo pos (starEach args env)) []):=by with_unfolding_all rfl):T prog w C A σ (eval (.Call (.Attribute o name apos) args [] pos) env) Q E :=
  fun _ S=>MethodCall_ (h.k S fun _ _ _ h S=>h.k S fun _ _ _ h S=>h _ S) he
theorem T_Call {func:Expr} {args:List Expr} {pos:Pos} {Q:Value→Led→Prop} (h:T prog w C A σ (eval func env) (fun f σ₁=>T prog w C A σ₁ (callWith pos f [] (backTo pos (starEach args env)) []) Q E) E)
    (he:eval (.Call func args [] pos) env = (do callWith pos (← eval func env) [] (backTo pos (starEach args env)) (backToKw pos (keywordEach [] env))):=by with_unfolding_all rfl):T prog w C A σ (eval (.Call func args [] pos) env) Q E :=
  fun _ S=>Call_ (h.k S fun _ _ _ h S=>h _ S) he
theorem T_Sub {value slice:Expr} {pos:Pos} {Q:Value→Led→Prop} (h:T prog w C A σ (eval value env) (fun o σ₁=>T prog w C A σ₁ (eval slice env) (fun i σ₂=>T prog w C A σ₂ (subscriptTail value slice o i) Q E) E) E) :
    T prog w C A σ (eval (.Subscript value slice pos) env) Q E:=fun _ S=>Subscript_ (h.k S fun _ _ _ h S=>h.k S fun _ _ _ h S=>h _ S)
theorem T_Attr {value:Expr} {attr:Str} {pos:Pos} {Q:Value→Led→Prop} (h:T prog w C A σ (eval value env) (fun o σ₁=>T prog w C A σ₁ (getAttr o attr true) Q E) E)
    (he:eval (.Attribute value attr pos) env = (do
        let o ← eval value env
        PySem.standAt pos.atName
        let r ← PySem.holding [o] (getAttr o attr true)
        letTemporaryGo value o r
        Pure.pure r):=by with_unfolding_all rfl):T prog w C A σ (eval (.Attribute value attr pos) env) Q E:=fun _ S=>Attribute_any_ (h.k S fun _ _ _ h S=>h _ S) he
theorem T_args0 {pos:Pos} {Q:List Value→Led→Prop} (h:Q [] σ):T prog w C A σ (spliced (backTo pos (starEach [] env))) Q E:=fun _ S=>wpAny_items_nil ⟨_,h,S⟩
theorem T_args1 {pos:Pos} {e:Expr} {rest:List Expr} {Q:List Value→Led→Prop} (h:T prog w C A σ (eval e env) (fun v σ₁=>T prog w C A σ₁ (spliced (backTo pos (starEach rest env))) (fun vs=>Q (v::vs)) E) E)
    (he:starEach (e::rest) env = (false,eval e env)::starEach rest env:=by with_unfolding_all rfl):T prog w C A σ (spliced (backTo pos (starEach (e::rest) env))) Q E :=
  fun _ S=>wpAny_items_cons (h.k S fun _ _ _ h S=>h.k S fun _ _ _ h S=>⟨_,h,S⟩) he
theorem T_callB {pos:Pos} {id:String} {first:List Value} {e:Expr} {rest:List Expr} {Q:Value→Led→Prop} (h:T prog w C A σ (spliced (backTo pos (starEach (e::rest) env))) (fun vs σ₁=>T prog w C A σ₁ (call (.builtin id) (first ++ vs)) Q E) E)
    (he:starEach (e::rest) env = (false,eval e env)::starEach rest env:=by with_unfolding_all rfl) (hp:(backTo pos (starEach rest env)).any (·.1) = false:=by with_unfolding_all rfl):T prog w C A σ (callWith pos (.builtin id) first (backTo pos (starEach (e::rest) env)) []) Q E :=
  fun _ S=>callWith_method1 (h.k S fun _ _ _ h S=>h _ S) he hp
theorem T_callB0 {pos:Pos} {id:String} {first:List Value} {Q:Value→Led→Prop} (h:T prog w C A σ (call (.builtin id) first) Q E):T prog w C A σ (callWith pos (.builtin id) first (backTo pos (starEach [] env)) []) Q E:=fun _ S=>callWith_method0 (h _ S)
theorem T_callT {pos:Pos} {id:String} {e:Expr} {rest:List Expr} {Q:Value→Led→Prop} (h:T prog w C A σ (spliced (backTo pos (starEach (e::rest) env))) (fun vs σ₁=>T prog w C A σ₁ (call (.type id) vs) Q E) E)
    (he:starEach (e::rest) env = (false,eval e env)::starEach rest env:=by with_unfolding_all rfl) (hp:(backTo pos (starEach rest env)).any (·.1) = false:=by with_unfolding_all rfl):T prog w C A σ (callWith pos (.type id) [] (backTo pos (starEach (e::rest) env)) []) Q E :=
  fun _ S=>PyProof.Rows.callWith_type1 (h.k S fun _ _ _ h S=>h _ S) he hp
theorem T_callT0 {pos:Pos} {id:String} {Q:Value→Led→Prop} (h:T prog w C A σ (call (.type id) []) Q E):T prog w C A σ (callWith pos (.type id) [] (backTo pos (starEach [] env)) []) Q E:=fun _ S=>callWith_type0 (h _ S)
theorem T_callK {f:Value} {pos:Pos} {first:List Value} {e:Expr} {rest:List Expr} {Q:Value→Led→Prop} (hk:keepIn C.K f = true) (h:T prog w C A σ (spliced (backTo pos (starEach (e::rest) env))) (fun vs σ₁=>T prog w C A σ₁ (call f (first ++ vs)) Q E) E)
    (he:starEach (e::rest) env = (false,eval e env)::starEach rest env:=by with_unfolding_all rfl) (hp:(backTo pos (starEach rest env)).any (·.1) = false:=by with_unfolding_all rfl):T prog w C A σ (callWith pos f first (backTo pos (starEach (e::rest) env)) []) Q E :=
  fun _ S=>callWith_K S.kin hk (h.k S fun _ _ _ h S=>⟨S.kin,h _ S⟩) he hp
theorem T_callK0 {f:Value} {pos:Pos} {first:List Value} {Q:Value→Led→Prop} (hk:keepIn C.K f = true) (h:T prog w C A σ (call f (first ++ [])) Q E):T prog w C A σ (callWith pos f first (backTo pos (starEach [] env)) []) Q E :=
  fun _ S=>callWith_K0 S.kin hk (h _ S)
theorem T_callBnd {a:Addr} {id:String} {self:Value} {pos:Pos} {first:List Value} {e:Expr} {rest:List Expr} {Q:Value→Led→Prop} (ha:(a,.raw (bndO id self))∈σ)
    (h:T prog w C A σ (spliced (backTo pos (starEach (e::rest) env))) (fun vs σ₁=>(a,.raw (bndO id self))∈σ₁∧T prog w C A σ₁ (call (.ref a) (first ++ vs)) Q E) E)
    (he:starEach (e::rest) env = (false,eval e env)::starEach rest env:=by with_unfolding_all rfl) (hp:(backTo pos (starEach rest env)).any (·.1) = false:=by with_unfolding_all rfl):T prog w C A σ (callWith pos (.ref a) first (backTo pos (starEach (e::rest) env)) []) Q E :=
  fun _ S=>callWith_B S ha (h.k S fun _ _ _ h S=>⟨_,S,h.1,h.2 _ S⟩) he hp
theorem T_ldL {x:Str} {pv:Value} {m:List (Str × Value)} {Q:Value→Led→Prop} (hl:env.kindOf x = some .local) (hk:env.scope.kind = .function) (hm:(env.locals,.ns m)∈σ) (hx:m.lookup x = some pv) (h:Vs pv (fun v=>Q v σ)):T prog w C A σ (loadName env x) Q E :=
  fun _ S=>ldL S hm hx hk hl (h.led S)
theorem T_ldC {x:Str} {c:Addr} {pv:Value} {Q:Value→Led→Prop} (hl:env.kindOf x = some .cell) (hk:env.scope.kind = .function) (hc:env.cells.lookup x = some c) (hm:(c,.cel (some pv))∈σ) (h:Vs pv (fun v=>Q v σ)):T prog w C A σ (loadName env x) Q E :=
  fun _ S=>ldC S hc hm hk hl (h.led S)
theorem T_ldL' {x:Str} {pv:Value} {m:List (Str × Value)} {Q:Value→Led→Prop} (hl:env.kindOf x = some .local) (hk:env.scope.kind = .function) (hm:(env.locals,.ns m)∈σ) (hx:m.lookup x = some pv) (h:VsQ pv Q σ):T prog w C A σ (loadName env x) Q E:=T_ldL hl hk hm hx h
theorem T_ldC' {x:Str} {c:Addr} {pv:Value} {Q:Value→Led→Prop} (hl:env.kindOf x = some .cell) (hk:env.scope.kind = .function) (hc:env.cells.lookup x = some c) (hm:(c,.cel (some pv))∈σ) (h:VsQ pv Q σ):T prog w C A σ (loadName env x) Q E:=T_ldC hl hk hc hm h
theorem T_ldF {x:Str} {c:Addr} {pv:Value} {Q:Value→Led→Prop} (hc:env.cells.lookup x = some c) (hm:(c,.cel (some pv))∈σ) (hk:env.scope.kind = .function) (hl:env.kindOf x = some .free) (h:Vs pv (fun v=>Q v σ))
    (hn:(x == ("__classdict__" : Str)) = false:=by decide):T prog w C A σ (loadName env x) Q E:=fun _ S=>ldF S hc hm hk hl (h.led S) hn
theorem T_ldG {x:Str} {v:Value} {Q:Value→Led→Prop} (hx:env.kindOf x = some .globalImplicit) (hk:env.scope.kind = .function) (hg:env.globals = mainGlobals) (e:nsIn C.K mainGlobals x = some (some v)) (h:Q v σ):T prog w C A σ (loadName env x) Q E :=
  fun _ S=>ldG S e hk hx hg ⟨_,h,S⟩
theorem T_ldB {x:Str} {v:Value} {Q:Value→Led→Prop} (hx:env.kindOf x = some .globalImplicit) (hk:env.scope.kind = .function) (hg:env.globals = mainGlobals) (hb:env.builtins = builtinsNs) (e2:bootBuiltins x = some v) (e:nsIn C.K mainGlobals x = some none) (hn:x ≠ "__name__") (h:Q v σ) :
    T prog w C A σ (loadName env x) Q E:=fun _ S=>ldB S e e2 hn hk hx hg hb ⟨_,h,S⟩
theorem T_stL {x:Str} {v:Value} {m:List (Str × Value)} {Q:Unit→Led→Prop} (U:Upd env.locals (.ns m) (.ns ((x,er v)::m)) σ σ') (hl:env.kindOf x = some .local) (hk:env.scope.kind = .function) (h:Q () σ'):T prog w C A σ (storeName env x v) Q E :=
  fun _ S=>stL S U hl hk fun _ S'=>⟨_,h,S'⟩
theorem T_stC {x:Str} {v:Value} {c:Addr} {v₀:Option Value} {Q:Unit→Led→Prop} (hc:env.cells.lookup x = some c) (U:Upd c (.cel v₀) (.cel (some (er v))) σ σ') (hl:env.kindOf x = some .cell) (hk:env.scope.kind = .function) (h:Q () σ'):T prog w C A σ (storeName env x v) Q E :=
  fun _ S=>stC S hc U hl hk fun _ S'=>⟨_,h,S'⟩
theorem T_getA {x d Cc:Addr} {name:Str} {pv:Value} {m:List (Str × Value)} {Q:Value→Led→Prop} {expr:Bool} (hm:(x,.ins Cc d)∈σ) (hd:(d,.idc m)∈σ) (hc:Cls C.K Cc name) (hx:m.lookup name = some pv) (hv:handedIn pv = true) (h:Vs pv (fun v=>Q v σ)) :
    T prog w C A σ (getAttr (.ref x) name expr) Q E:=fun _ S=>getC S hm hd hc hx hv fun _ S'=>h.led S'
theorem T_getA' {x d Cc:Addr} {name:Str} {pv:Value} {m:List (Str × Value)} {Q:Value→Led→Prop} {expr:Bool} (hm:(x,.ins Cc d)∈σ) (hd:(d,.idc m)∈σ) (hc:Cls C.K Cc name) (hx:m.lookup name = some pv) (hv:handedIn pv = true) (h:VsQ pv Q σ) :
    T prog w C A σ (getAttr (.ref x) name expr) Q E:=T_getA hm hd hc hx hv h
theorem T_setD {x d Cc:Addr} {name:Str} {v:Value} {m:List (Str × Value)} {Q:Unit→Led→Prop} (hm:(x,.ins Cc d)∈σ) (U:Upd d (.idc m) (.idc (repl name (er v) m)) σ σ') (hc:Cls C.K Cc name) (hi:(m.lookup name).isSome = true) (hz:m.length < 1000) (h:Q () σ') :
    T prog w C A σ (setAttr (.ref x) name v) Q E:=fun _ S=>setD S hm U hc hi hz fun _ S'=>⟨_,h,S'⟩
theorem T_setC {x d Cc:Addr} {name:Str} {v:Value} {m:List (Str × Value)} {Q:Unit→Led→Prop} (hm:(x,.ins Cc d)∈σ) (U:Upd d (.idc m) (.idc ((name,er v)::m)) σ σ') (hc:Cls C.K Cc name) (hz:m.length < 1000) (h:Q () σ') :
    T prog w C A σ (setAttr (.ref x) name v) Q E:=fun _ S=>setC S hm U hc hz fun _ S'=>⟨_,h,S'⟩
theorem T_mth {x d Cc f:Addr} {name:Str} {m:List (Str × Value)} {Q:Value × List Value→Led→Prop} {pl:Sem Bool} (hm:(x,.ins Cc d)∈σ) (hd:(d,.idc m)∈σ) (hc:Meth C.K Cc name f) (hx:m.lookup name = none) (h:Q (.ref f,[.ref x]) σ) :
    T prog w C A σ (getMethod (.ref x) name pl) Q E:=fun _ S=>mthC S hm hd hc hx ⟨_,h,S⟩
theorem T_mthOwn {x d Cc:Addr} {name:Str} {m:List (Str × Value)} {pv:Value} {Q:Value × List Value→Led→Prop} {pl:Sem Bool} (hm:(x,.ins Cc d)∈σ) (hd:(d,.idc m)∈σ) (hc:Cls C.K Cc name) (hx:m.lookup name = some pv) (hv:handedIn pv = true) (h:Vs pv (fun v=>Q (v,[]) σ)) :
    T prog w C A σ (getMethod (.ref x) name pl) Q E:=fun _ S=>mthOwn S hm hd hc hx hv fun _ S'=>h.mono fun _ hq=>⟨_,hq,S'⟩
theorem T_assignN {x:Str} {pos:Pos} {v:Value} {Q:Unit→Led→Prop} (h:T prog w C A σ (storeName env x v) Q E):T prog w C A σ (assign (.Name x pos) env v) Q E:=fun _ S=>wpAny_assign_Name (h _ S)
theorem T_assignT2 {T':Addr} {e₁ e₂:Expr} {k:Nat} {pos:Pos} {p₁ p₂:Value} {Q:Unit→Led→Prop} (hh:A.handled = none) (hT:(T',.tup [p₁,p₂])∈σ)
    (he:(assignEach [e₁,e₂] env).map (·.2) = [assign e₁ env,assign e₂ env]) (hst:(assignEach [e₁,e₂] env).findIdx? (·.1) = none)
    (h:Vs p₁ (fun v₁=>Vs p₂ (fun v₂=>T prog w C A σ (assign e₁ env v₁) (fun _ σ₁=>T prog w C A σ₁ (assign e₂ env v₂) Q E) E))):T prog w C A σ (assign (.Tuple [e₁,e₂] k pos) env (.ref T')) Q E :=
  fun _ S=>assignT2 hh S hT he hst fun _ S'=>h.mono fun _ h=>h.mono fun _ h=>h.k S' fun _ _ _ h S=>h _ S
theorem T_isN {v:Value} {Q:Value→Led→Prop} (h:Q (.bool (v == .none)) σ):T prog w C A σ (compareOp .Is v .none) Q E:=fun _ S=>is_none ⟨_,h,S⟩
theorem T_isNN {v:Value} {Q:Value→Led→Prop} (h:Q (.bool (!(v == .none))) σ):T prog w C A σ (compareOp .IsNot v .none) Q E:=fun _ S=>isNot_none ⟨_,h,S⟩
theorem T_neS {x y:Str} {t u:Tok} {Q:Value→Led→Prop} (h:Q (.bool (x.cps.toList != y.cps.toList)) σ):T prog w C A σ (compareOp .NotEq (.str x t) (.str y u)) Q E:=fun _ S=>P.ne_str ⟨_,h,S⟩
theorem T_eqS {x y:Str} {t u:Tok} {Q:Value→Led→Prop} (h:Q (.bool (x.cps.toList == y.cps.toList)) σ):T prog w C A σ (compareOp .Eq (.str x t) (.str y u)) Q E:=fun _ S=>P.eq_str ⟨_,h,S⟩
theorem T_inS {x y:Str} {t u:Tok} {Q:Value→Led→Prop} (h:Q (.bool (Txt.contains x y)) σ):T prog w C A σ (compareOp .In (.str y u) (.str x t)) Q E:=fun _ S=>SB.contains ⟨_,h,S⟩
theorem T_trB {b:Bool} {Q:Bool→Led→Prop} (h:Q b σ):T prog w C A σ (truthy (.bool b)) Q E:=fun _ S=>wpAny_truthy_bool ⟨_,h,S⟩
theorem T_trN {Q:Bool→Led→Prop} (h:Q false σ):T prog w C A σ (truthy .none) Q E:=fun _ S=>truthy_none ⟨_,h,S⟩
theorem T_trI {i:Int} {t:Tok} {Q:Bool→Led→Prop} (h:Q (i != 0) σ):T prog w C A σ (truthy (.int i t)) Q E:=fun _ S=>P.truthy_int ⟨_,h,S⟩
theorem T_trS {x:Str} {t:Tok} {Q:Bool→Led→Prop} (hz:x.length≤1000000) (h:Q (!(x.length == 0)) σ):T prog w C A σ (truthy (.str x t)) Q E:=fun _ S=>truthyT S hz fun _ S'=>⟨_,h,S'⟩
theorem T_trL {l:Addr} {xs:List Value} {Q:Bool→Led→Prop} (hl:(l,.lst xs)∈σ) (hz:xs.length≤1000000) (h:Q (!xs.isEmpty) σ):T prog w C A σ (truthy (.ref l)) Q E:=fun _ S=>truthyL S hl hz fun _ S'=>⟨_,h,S'⟩
end
noncomputable def retv:Flow→Value | .ret v=>v | _=>.none
section
variable {prog:Program} {w:World} {C:Cx} {A:Around} {σ σ' τ:Led} {α β:Type} {E:Value→Led→Prop} {env:Env} {s:Shared}
theorem T_callF {Q:Value→Led→Prop} {f:Addr} {nm qual:Str} {params:Arguments} {body:List Stmt} {scope:Scope} {cl:List (Str × Addr)} {dV kV doc pm cdv ct oc:Value} {an od:Option Addr} {osl:Array (Option Value)} {args:List Value} {kw:List (Str × Value)} {m:List (Str × Value)} (binds:List (Str × Value))
    (hroom:A.depth < recursionLimit) (ho:C.K.lookup f = some ⟨oc,od,.func (fnX nm qual params body scope cl dV kV doc pm an cdv ct),osl⟩) (hcd:codeIn C.K cdv qual = true)
    (hbind:∀ s,C.K.In s.heap→BindsTo s (fnX nm qual params body scope cl dV kV doc pm an cdv ct) ⟨args,kw⟩ binds) (hloc:(binds.all fun y=>scope.names.lookup y.1 == some .local) = true)
    (hm:binds.reverse.map (fun y=>(y.1,er y.2)) = m)
    (h:∀ L,T prog w C (A.deeper (envX qual scope L f cdv cl)) ((L,.ns m)::σ) (execs body (envX qual scope L f cdv cl)) (fun fl=>Up Q (retv fl)) NoE)
    (hco:scope.isCoroutine = false:=by rfl) (hgen:scope.isGenerator = false:=by rfl) (hk:scope.kind = .function:=by rfl) (hcell:∀ x∈scope.names,x.2 ≠ .cell:=by decide) :
    T prog w C A σ (call (.ref f) args kw) Q E:=by
  subst hm
  intro s S
  refine callFn (args:=⟨args,kw⟩) S hroom ho hcd (hbind s S.kin) (locAll hloc) (fun L s' S'=>?_) hco hgen hk hcell
  refine (h L).kN S' fun fl σ' s' ⟨σ'',hs,hq⟩ S'=>?_
  cases fl <;> exact ⟨σ'',hq,S'.sub hs⟩
theorem T_callFC {R:Result→Led→Prop} {f:Addr} {nm qual:Str} {params:Arguments} {body:List Stmt} {scope:Scope} {cl:List (Str × Addr)} {dV kV doc pm cdv ct oc:Value} {an od:Option Addr} {osl:Array (Option Value)} {args:List Value} {kw:List (Str × Value)} {m:List (Str × Value)} (binds:List (Str × Value))
    (hroom:A.depth < recursionLimit) (ho:C.K.lookup f = some ⟨oc,od,.func (fnX nm qual params body scope cl dV kV doc pm an cdv ct),osl⟩) (hcd:codeIn C.K cdv qual = true)
    (hbind:∀ s,C.K.In s.heap→BindsTo s (fnX nm qual params body scope cl dV kV doc pm an cdv ct) ⟨args,kw⟩ binds) (hloc:(binds.all fun y=>scope.names.lookup y.1 == some .local) = true)
    (hm:binds.reverse.map (fun y=>(y.1,er y.2)) = m)
    (h:∀ L,T prog w C (A.deeper (envX qual scope L f cdv cl)) ((L,.ns m)::σ) (execs body (envX qual scope L f cdv cl)) (fun fl=>Up (fun v=>R (.ok (.ret v))) (retv fl)) NoE)
    (hco:scope.isCoroutine = false:=by rfl) (hgen:scope.isGenerator = false:=by rfl) (hk:scope.kind = .function:=by rfl) (hcell:∀ x∈scope.names,x.2 ≠ .cell:=by decide) :
    TC prog w C A σ (.call (.ref f) ⟨args,kw⟩) R:=by
  subst hm
  intro s S
  refine callFnC (args:=⟨args,kw⟩) S hroom ho hcd (hbind s S.kin) (locAll hloc) (fun L s' S'=>?_) hco hgen hk hcell
  refine (h L).kN S' fun fl σ' s' ⟨σ'',hs,hq⟩ S'=>?_
  cases fl <;> exact ⟨σ'',hq,S'.sub hs⟩
theorem bindL_look {ko:Str→Option NameKind}:∀ (binds:List (Str × Value)) (m:Str→Option Value) (y:Str),
    bindL ko binds m y = ((binds.filter fun x=>decide (ko x.1 = some .local)).reverse.lookup y).or (m y)
  | [],m,y=>rfl
  | (n,v)::r,m,y=>by
    unfold bindL
    rw [bindL_look r]
    by_cases h:ko n = some .local
    · rw [if_pos h,List.filter_cons_of_pos (by simpa using h),List.reverse_cons,lookup_append]
      by_cases e:y = n
      · subst e; simp
      · have : (y == n) = false:=beq_eq_false_iff_ne.mpr e
        simp [e,List.lookup_cons,this]
    · rw [if_neg h,List.filter_cons_of_neg (by simpa using h)]
where
  lookup_append {l r:List (Str × Value)} {y:Str}:(l ++ r).lookup y = (l.lookup y).or (r.lookup y):=by
    induction l with
    | nil=>simp
    | cons p l ih =>
      rw [List.cons_append,List.lookup_cons,List.lookup_cons]
      cases (y == p.1) <;> simp [ih]
theorem bindC_look {ko:Str→Option NameKind}:∀ (binds:List (Str × Value)) (m:Str→Option Value) (y:Str),
    bindC ko binds m y = ((binds.filter fun x=>!decide (ko x.1 = some .local)).reverse.lookup y).or (m y)
  | [],m,y=>rfl
  | (n,v)::r,m,y=>by
    unfold bindC
    rw [bindC_look r]
    by_cases h:ko n = some .local
    · rw [if_pos h,List.filter_cons_of_neg (by simpa using h)]
    · rw [if_neg h,List.filter_cons_of_pos (by simpa using h),List.reverse_cons,bindL_look.lookup_append]
      by_cases e:y = n
      · subst e; simp
      · have : (y == n) = false:=beq_eq_false_iff_ne.mpr e
        simp [e,List.lookup_cons,this]
theorem lookup_er (l:List (Str × Value)) (x:Str):(l.lookup x).map er = (l.map fun y=>(y.1,er y.2)).lookup x:=by
  induction l with
  | nil=>rfl
  | cons y r ih =>
    rw [List.lookup_cons,List.map_cons,List.lookup_cons]
    cases (x == y.1) <;> simp_all
theorem Sat.cells {L:Addr} {m cm:Str→Option Value} {cs:List (Str × Addr)} {mm:List (Str × Value)} (S:Sat C σ s) (x:InCallC s L m cs cm s') (hL:s.heap.objs.size≤L) (hm:∀ y,(m y).map er = mm.lookup y)
    (hnd:(cs.map (·.1)).Nodup) (htk:s.toks≤s'.toks):Sat C ((L,.ns mm)::(cs.map fun p=>(p.2,PO.cel ((cm p.1).map er))) ++ σ) s':=by
  have k:=x.toInCall.keep
  obtain ⟨o',ho',hp'⟩:=PO.of_ns x.toInCall.ns hm
  have hlk:∀ p∈cs,cs.lookup p.1 = some p.2:=fun p hp=>by
    have go:∀ l:List (Str × Addr),(l.map (·.1)).Nodup→p∈l→l.lookup p.1 = some p.2:=by
      intro l
      induction l with
      | nil=>intro _ h; cases h
      | cons q r ih =>
        intro hn h
        rw [List.map_cons,List.nodup_cons] at hn
        rw [List.lookup_cons]
        rcases List.mem_cons.mp h with rfl | h
        · simp
        · have : (p.1 == q.1) = false:=beq_eq_false_iff_ne.mpr fun e=>hn.1 (e ▸ List.mem_map_of_mem (f:=(·.1)) h)
          rw [this]; exact ih hn.2 h
    exact go cs hnd hp
  obtain ⟨h',tk,rfl⟩:=x.toInCall.same
  refine ⟨S.old.step_keeps k,?_,fun q hq=>?_,fun q hq=>?_,?_,S.os,S.gens,S.gl,Nat.lt_of_lt_of_le S.tk htk,fun q hq=>(S.lam q hq).step (fun o e=>k _ o e) (fun b o _ e=>k b o e) fun c hc hn hm'=>by
    rw [List.cons_append,List.map_cons,List.map_append] at hm'
    rcases List.mem_cons.mp hm' with e | hm'
    · exact Nat.lt_irrefl _ (Nat.lt_of_lt_of_le hc (Nat.le_trans hL (Nat.le_of_eq e.symm)))
    · rcases List.mem_append.mp hm' with hm' | hm'
      · obtain ⟨q,hq,e⟩:=List.mem_map.mp hm'
        obtain ⟨p,hp,rfl⟩:=List.mem_map.mp hq
        have:=x.above p.1 p.2 hp
        have e:p.2 = c:=e
        exact Nat.lt_irrefl _ (Nat.lt_of_lt_of_le (Nat.lt_trans (Nat.lt_of_le_of_lt hL this) (Nat.lt_succ_self _)) (by rw [e]; exact hc))
      · exact hn hm'⟩
  · obtain ⟨mc,⟨oc,es,ep,hc,_⟩,_⟩:=C.lim
    exact (k _ _ (S.stat.trans hc)).trans hc.symm
  · rcases List.mem_cons.mp hq with rfl | hq
    · exact ⟨o',ho',hp'⟩
    · rcases List.mem_append.mp hq with hq | hq
      · obtain ⟨p,hp,rfl⟩:=List.mem_map.mp hq
        obtain ⟨o,ho,hd⟩:=x.cell p.1 p.2 (hlk p hp)
        exact ⟨o,ho,_,hd,rfl⟩
      · obtain ⟨y,hy,h⟩:=S.led q hq; exact ⟨y,k _ _ hy,h⟩
  · rcases List.mem_cons.mp hq with rfl | hq
    · exact Nat.le_trans S.size hL
    · rcases List.mem_append.mp hq with hq | hq
      · obtain ⟨p,hp,rfl⟩:=List.mem_map.mp hq
        exact Nat.le_trans S.size (Nat.le_trans hL (Nat.le_of_lt (x.above p.1 p.2 hp)))
      · exact S.low q hq
  · rw [List.cons_append,List.map_cons,List.nodup_cons,List.map_append,List.map_map]
    have e:(cs.map ((fun p:Addr × PO=>p.1) ∘ fun p:Str × Addr=>(p.2,PO.cel ((cm p.1).map er)))) = cs.map (·.2):=List.map_congr_left fun _ _=>rfl
    rw [e]
    have hσ:∀ a∈σ.map (·.1),a < s.heap.objs.size:=fun a ha=>by
      obtain ⟨q,hq,rfl⟩:=List.mem_map.mp ha
      exact S.lt (p:=q.2) hq
    have hc:∀ a∈cs.map (·.2),L < a:=fun a ha=>by
      obtain ⟨q,hq,rfl⟩:=List.mem_map.mp ha
      exact x.above q.1 q.2 hq
    refine ⟨fun hm=>?_,?_⟩
    · rcases List.mem_append.mp hm with hm | hm
      · exact Nat.lt_irrefl _ (hc _ hm)
      · exact Nat.lt_irrefl _ (Nat.lt_of_lt_of_le (hσ _ hm) hL)
    · rw [List.nodup_append]
      refine ⟨(List.pairwise_map.mpr x.apart),S.nd,fun a ha b hb e=>?_⟩
      subst e
      exact Nat.lt_irrefl _ (Nat.lt_of_lt_of_le (hσ _ hb) (Nat.le_trans hL (Nat.le_of_lt (hc _ ha))))
theorem wpAny_toks {α:Type} {M:Model} {t:Sem α} {Q:α→Shared→Prop} {E:Value→Shared→Prop} {s:Shared} (h:wpAny M A t (fun a s'=>s.toks≤s'.toks→Q a s') E s):wpAny M A t Q E s:=fun Γ p hΓ =>
  Sem.wp_mono M Γ t (fun _ _ _ h'=>h'.1 h'.2) (fun _ _ _ h'=>h') _ _ (wp_toks t (h Γ p hΓ))
theorem T_callG {R:Result→Led→Prop} {f:Addr} {nm qual:Str} {params:Arguments} {body:List Stmt} {scope:Scope} {dV kV doc pm cdv ct oc:Value} {an od:Option Addr} {osl:Array (Option Value)} {args:List Value} {kw:List (Str × Value)} {m:List (Str × Value)} (binds:List (Str × Value))
    (cells:Addr→List (Str × Addr)) (cv:Addr→Led)
    (hroom:A.depth < recursionLimit) (ho:C.K.lookup f = some ⟨oc,od,.func (fnX nm qual params body scope [] dV kV doc pm an cdv ct),osl⟩) (hcd:codeIn C.K cdv qual = true)
    (hbind:∀ s,C.K.In s.heap→BindsTo s (fnX nm qual params body scope [] dV kV doc pm an cdv ct) ⟨args,kw⟩ binds) (hloc:(binds.all fun y=>scope.names.lookup y.1 == some .local || (scope.names.lookup y.1 == some .cell && ((cellsFrom 0 scope.names []).lookup y.1).isSome)) = true)
    (hm:(binds.filter fun x=>decide (scope.names.lookup x.1 = some .local)).reverse.map (fun y=>(y.1,er y.2)) = m)
    (hcells:∀ L,cellsFrom (L + 1) scope.names [] = cells L)
    (hcv:∀ L,((cells L).map fun p=>(p.2,PO.cel ((((binds.filter fun x=>!decide (scope.names.lookup x.1 = some .local)).reverse.lookup p.1).or none).map er))) = cv L)
    (hnd:((cells 0).map (·.1)).Nodup) (hnd2:∀ L,(cells L).map (·.1) = (cells 0).map (·.1))
    (h:∀ L,T prog w C (A.deeper (envX qual scope L f cdv (cells L))) ((L,.ns m)::cv L ++ σ) (execs body (envX qual scope L f cdv (cells L))) (fun fl=>Up (fun v=>R (.ok (.ret v))) (retv fl)) NoE)
    (hco:scope.isCoroutine = false:=by rfl) (hgen:scope.isGenerator = false:=by rfl) (hk:scope.kind = .function:=by rfl) :
    TC prog w C A σ (.call (.ref f) ⟨args,kw⟩) R:=by
  subst hm
  intro s S
  refine codeAny_call_function (fd:=fnX nm qual params body scope [] dV kV doc pm an cdv ct) (body:=body) hroom (S.kin _ _ ho) rfl hco hgen rfl (codeRec_of S.kin hcd) ?_
  refine hbind s S.kin _ _ _ _ ?_
  refine wpAny_toks ?_
  refine wpAny_newFunctionEnv_cells hk (fun x hx=>?_) fun env' he s' x htk=>?_
  · have:=List.all_eq_true.mp hloc x hx
    rw [Bool.or_eq_true,Bool.and_eq_true,beq_iff_eq,beq_iff_eq] at this
    rcases this with h | ⟨h1,h2⟩
    · exact .inl h
    · refine .inr ⟨h1,?_⟩
      have key:∀ (names:List (Str × NameKind)) n n' acc acc',(acc.lookup x.1).isSome = (acc'.lookup x.1).isSome→((cellsFrom n names acc).lookup x.1).isSome = ((cellsFrom n' names acc').lookup x.1).isSome:=by
        intro names
        induction names with
        | nil=>intro n n' acc acc' h; exact h
        | cons p r ih =>
          obtain ⟨a,b⟩:=p
          intro n n' acc acc' h
          unfold cellsFrom
          split
          · refine ih _ _ _ _ ?_
            rw [List.lookup_cons,List.lookup_cons]
            cases (x.1 == a) <;> simp [h]
          · exact ih _ _ _ _ h
      rw [← h2]
      exact key _ _ _ _ _ rfl
  have he':env' = envX qual scope s.heap.objs.size f cdv (cells s.heap.objs.size):=by
    rw [he]
    show newEnv scope s.heap.objs.size mainGlobals _ _ _ _ none builtinsNs = _
    rw [hcells]
    rfl
  subst he'
  refine ⟨S.lim.keeps x.toInCall.keep,codeAny_func ?_⟩
  have S':=Sat.cells (mm:=(binds.filter fun x=>decide (scope.names.lookup x.1 = some .local)).reverse.map (fun y=>(y.1,er y.2))) S x (Nat.le_refl _) (fun y=>by
    rw [bindL_look,Option.or_none,lookup_er]; rfl) (by show ((cells s.heap.objs.size).map (·.1)).Nodup; rw [hnd2]; exact hnd) htk
  have e:((cells s.heap.objs.size).map fun p=>(p.2,PO.cel ((bindC (Env.kindOf (envX qual scope s.heap.objs.size f cdv (cells s.heap.objs.size))) binds (fun _=>none) p.1).map er))) = cv s.heap.objs.size:=by
    rw [← hcv]
    exact List.map_congr_left fun p _=>by rw [bindC_look]; rfl
  rw [show (envX qual scope s.heap.objs.size f cdv (cells s.heap.objs.size)).cells = cells s.heap.objs.size from rfl,e] at S'
  refine (h _).kN S' fun fl σ' s' ⟨σ'',hs,hq⟩ S'=>?_
  cases fl <;> exact ⟨σ'',hq,S'.sub hs⟩
theorem T_callTC {Q:Value→Led→Prop} {f:Value} {args:List Value} {kw:List (Str × Value)} (h:TC prog w C A σ (.call f ⟨args,kw⟩) (fun r σ'=>match r with | .ok (.ret v)=>Q v σ' | _=>False)):T prog w C A σ (call f args kw) Q E :=
  fun s S=>wpAny_call (codeAny_mono (h s S) fun r s' ⟨σ',hr,S'⟩=>by
    cases r with
    | error e=>exact hr.elim
    | ok fl=>cases fl with
      | ret v=>exact ⟨σ',hr,S'⟩
      | _=>exact hr.elim)
end
section
variable {prog:Program} {w:World} {C:Cx} {A:Around} {σ σ' τ:Led} {α β:Type} {E:Value→Led→Prop} {env:Env} {s:Shared}
theorem T_iterL {l:Addr} {xs:List Value} {Q:Value→Led→Prop} (hl:(l,.lst xs)∈σ) (h:∀ it,Q (.ref it) ((it,itr l 0)::σ)):T prog w C A σ (pyIter (.ref l)) Q E:=fun _ S=>iterL S hl fun it _ S'=>⟨_,h it,S'⟩
theorem T_iterS {x:Str} {t:Tok} {Q:Value→Led→Prop} (ha:x.cps.all (· < 128) = true) (h:∀ it,Q (.ref it) ((it,sitr x t 0)::σ)):T prog w C A σ (pyIter (.str x t)) Q E:=fun _ S=>iterS S ha fun it _ S'=>⟨_,h it,S'⟩
theorem T_forIt {it:Addr} {target:Expr} {body:List Stmt} {R:Result→Led→Prop} {po:Nat→PO} {xs:List Value} {need:Led→Prop}
    (I:Its C prog w A it po xs need) (J:List Value→Led→Prop) (h0:J xs τ) (hn:∀ r τ,J r τ→need τ)
    (turn:∀ v r τ i,J (er v::r) τ→T prog w C A ((it,po i)::τ) (assign target env v) (fun _ σ₁=>T prog w C A σ₁ (execs body env) (fun fl σ₂=>match fl with
        | .next | .cont=>∃ τ',J r τ'∧((it,po i)::τ').Sublist σ₂
        | .brk=>R (.ok .next) σ₂
        | .ret v=>R (.ok (.ret v)) σ₂) NoE) NoE)
    (fin:∀ τ,J [] τ→R (.ok .next) τ) (ht:∀ it v,letOwnedTupleGo target it v = Pure.pure ():=by intro _ _; rfl) :
    TC prog w C A ((it,po 0)::τ) (.forLoop target (.ref it) body [] env) R:=by
  intro s S
  refine codeAny_mono (forIt (R:=fun f s'=>∃ σ',R (.ok f) σ'∧Sat C σ' s') (Er:=fun _ _=>False) I J S h0 hn (fun v r τ i s₁ hJ S₁=>?_) (fun τ s₁ hJ S₁=>⟨_,fin τ hJ,S₁⟩) ht) fun r s' h=>by
    cases r with
    | ok f=>exact h
    | error e=>exact h.elim
  refine (turn v r τ i hJ).kN S₁ fun _ σ₁ s₂ h₁ S₂=>T.kN (E':=fun _ _=>False) h₁ S₂ fun fl σ₂ s₃ h₂ S₃=>?_
  cases fl with
  | next=>obtain ⟨τ',hJ',hs⟩:=h₂; exact ⟨τ',hJ',S₃.sub hs⟩
  | cont=>obtain ⟨τ',hJ',hs⟩:=h₂; exact ⟨τ',hJ',S₃.sub hs⟩
  | brk=>exact ⟨_,h₂,S₃⟩
  | ret v=>exact ⟨_,h₂,S₃⟩
theorem T_forL {l it:Addr} {target:Expr} {body:List Stmt} {R:Result→Led→Prop} {xs:List Value} (hh:A.handled = none) (J:List Value→Led→Prop) (h0:J xs τ) (hn:∀ r τ,J r τ→(l,.lst xs)∈τ)
    (turn:∀ v r τ i,J (er v::r) τ→T prog w C A ((it,itr l i)::τ) (assign target env v) (fun _ σ₁=>T prog w C A σ₁ (execs body env) (fun fl σ₂=>match fl with
        | .next | .cont=>∃ τ',J r τ'∧((it,itr l i)::τ').Sublist σ₂
        | .brk=>R (.ok .next) σ₂
        | .ret v=>R (.ok (.ret v)) σ₂) NoE) NoE)
    (fin:∀ τ,J [] τ→R (.ok .next) τ) (ht:∀ it v,letOwnedTupleGo target it v = Pure.pure ():=by intro _ _; rfl) :
    TC prog w C A ((it,itr l 0)::τ) (.forLoop target (.ref it) body [] env) R:=T_forIt (itsL hh) J h0 hn turn fin ht
noncomputable def CompRestU (prog:Program) (w:World) (A:Around) (E:Value→Shared→Prop) (env:Env) (e:Expr) (scope:Scope) (cl:List (Str × Addr)) (newAcc:Sem Value) (use:Option (Value→Sem Unit)) (Q:Value→Shared→Prop) (it:Value) (s:Shared):Prop :=
  wpAny (model prog w) A newAcc (fun acc s₃=>wpAny (model prog w) A (newFunctionEnv scope env.globals cl [] env.qual none .none (some env)) (fun cenv s₄ =>
      codeAny (model prog w) A (.compStart e 0 it acc { cenv with scope:=relabel scope env }) (compPost (model prog w) A E use Q acc cenv.locals) s₄) E s₃) E s
noncomputable def CompT (prog:Program) (w:World) (C:Cx) (A:Around) (σ:Led) (env:Env) (e:Expr) (scope:Scope) (cl:List (Str × Addr)) (newAcc:Sem Value) (use:Option (Value→Sem Unit)) (Q:Value→Led→Prop) (E:Value→Led→Prop) (it:Value):Prop :=
  ∀ s,Sat C σ s→CompRestU prog w A (fun e s'=>∃ σ',E e σ'∧Sat C σ' s') env e scope cl newAcc use (fun v s'=>∃ σ',Q v σ'∧Sat C σ' s') it s
noncomputable def FinC (prog:Program) (w:World) (C:Cx) (A:Around) (τ:Led) (p:PO) (Q:Value→Led→Prop) (E:Value→Led→Prop):Option (Value→Sem Unit)→Prop
  | none=>∀ D,Q (.ref D) ((D,p)::τ)
  | some u=>∀ L D m,T prog w C A ((L,.ns m)::(D,p)::τ) (u (.ref D)) (fun _ σ'=>∃ m' σ'',((L,.ns m')::σ'').Sublist σ'∧Q .none σ'') E
theorem FinC.post {p:PO} {Q:Value→Led→Prop} {use:Option (Value→Sem Unit)} {L D:Addr} {m:List (Str × Value)} (h:FinC prog w C A τ p Q E use) (S:Sat C ((L,.ns m)::(D,p)::τ) s) :
    compPost (model prog w) A (fun e s'=>∃ σ',E e σ'∧Sat C σ' s') use (fun v s'=>∃ σ',Q v σ'∧Sat C σ' s') (.ref D) L (.ok .next) s:=by
  cases use with
  | none =>
    obtain ⟨o,ho,hp⟩:=S.get (.head _)
    obtain ⟨mm,nn,_⟩:=PO.ns_of ho hp
    exact ⟨mm,nn,fun h' hs'=>⟨_,h D,S.ext hs'.extBut s.toks⟩⟩
  | some u =>
    refine (h L D m).k S fun _ σ' s' ⟨m',σ'',hsub,hq⟩ S'=>?_
    have S₂:=S'.sub hsub
    obtain ⟨o,ho,hp⟩:=S₂.get (.head _)
    obtain ⟨mm,nn,_⟩:=PO.ns_of ho hp
    exact ⟨mm,nn,fun h' hs'=>⟨_,hq,S₂.ext hs'.extBut s'.toks⟩⟩
theorem CompT.drop {e:Expr} {scope:Scope} {cl:List (Str × Addr)} {na:Sem Value} {use:Option (Value→Sem Unit)} {Q:Value→Led→Prop} {it:Value} (h:CompT prog w C A σ' env e scope cl na use Q E it) (hs:σ'.Sublist σ):CompT prog w C A σ env e scope cl na use Q E it:=fun s S=>h s (S.sub hs)
theorem wpAny_comp_free {e:Expr} {scope:Scope} {pos:Pos} {newAcc first:Sem Value} {g:Comprehension} {gs:List Comprehension} {cl:List (Str × Addr)} {use:Option (Value→Sem Unit)} {Q:Value→Led→Prop}
    (hcl:clausesOf e = g::gs) (hs:∀ x,foldedSetIterable g.iter env x = Pure.pure x) (hclos:closureFor scope env = Pure.pure cl) (hkind:scope.kind = .function) (hnames:∀ x∈scope.names,x.2 = .local→scope.names.lookup x.1 = some .local)
    (h:T prog w C A σ first (fun xv σ₁=>T prog w C A σ₁ (pyIter xv) (fun it σ₂=>CompT prog w C A σ₂ env e scope cl newAcc use Q E it) E) E):T prog w C A σ (comprehension e scope env pos newAcc false first use) Q E :=
  fun _ S=>PySem.wpAny_comprehension_free hcl hs hclos hkind hnames (h.k S fun _ _ _ h S=>h.k S fun _ _ _ h S=>h _ S)
theorem T_LC {elt iter:Expr} {x:Str} {px:Pos} {ifs:List Expr} {scope:Scope} {pos:Pos} (cl:List (Str × Addr)) {Q:Value→Led→Prop}
    (hclos:closureFor scope env = Pure.pure cl) (hkind:scope.kind = .function) (hnames:∀ x∈scope.names,x.2 = .local→scope.names.lookup x.1 = some .local)
    (h:T prog w C A σ (eval iter env) (fun xv σ₁=>T prog w C A σ₁ (pyIter xv) (fun it σ₂=>CompT prog w C A σ₂ env (.ListComp elt [⟨.Name x px,iter,ifs,0⟩] scope pos) scope cl (newList []) none Q E it) E) E)
    (hs:∀ x,foldedSetIterable iter env x = Pure.pure x:=by intro _; rfl):T prog w C A σ (eval (.ListComp elt [⟨.Name x px,iter,ifs,0⟩] scope pos) env) Q E:=by
  rw [arm_eval_ListComp]
  exact wpAny_comp_free rfl hs hclos hkind hnames h
theorem T_LCu {elt iter:Expr} {x y:Str} {px py:Pos} {ifs:List Expr} {scope:Scope} {pos spos:Pos} (cl:List (Str × Addr)) {Q:Flow→Led→Prop}
    (hsw:swapsWith (.ListComp elt [⟨.Name x px,iter,ifs,0⟩] scope pos) (some (.Name y py)) spos.line env = Pure.pure true) (hclos:closureFor scope env = Pure.pure cl) (hkind:scope.kind = .function) (hnames:∀ x∈scope.names,x.2 = .local→scope.names.lookup x.1 = some .local)
    (h:T prog w C A σ (eval iter env) (fun xv σ₁=>T prog w C A σ₁ (pyIter xv) (fun it σ₂=>CompT prog w C A σ₂ env (.ListComp elt [⟨.Name x px,iter,ifs,0⟩] scope pos) scope cl (newList []) (some (assign (.Name y py) env)) (fun _=>Q .next) E it) E) E)
    (hs:∀ x,foldedSetIterable iter env x = Pure.pure x:=by intro _; rfl):T prog w C A σ (exec (.Assign [.Name y py] (.ListComp elt [⟨.Name x px,iter,ifs,0⟩] scope pos) spos) env) Q E:=by
  rw [exec_Assign_Name_used _ _ _ _ hsw]
  refine T.bind (T.standAt (T.bind ?_))
  unfold evalThenUse
  refine T.bind (wpAny_comp_free (Q:=fun _ σ'=>T prog w C A σ' (Pure.pure ()) (fun _ σ'=>T prog w C A σ' (Pure.pure Flow.next) Q E) E) rfl hs hclos hkind hnames (h.mono (fun xv σ₁ h=>h.mono (fun it σ₂ h=>?_) fun _ _ e=>e) fun _ _ e=>e))
  intro s S
  refine wpAny_mono (h s S) (fun acc s₃ h=>wpAny_mono h (fun cenv s₄ h=>codeAny_mono h fun r s' h=>?_) fun _ _ e=>e) fun _ _ e=>e
  cases r with
  | error e=>exact h
  | ok f =>
    refine wpAny_mono h (fun _ s'' ⟨m,hn,hq⟩=>⟨m,hn,fun h' hs'=>?_⟩) fun _ _ e=>e
    obtain ⟨σ',hq,S'⟩:=hq h' hs'
    exact ⟨σ',T.pure (T.pure hq),S'⟩
theorem T_tests0 {Q:Bool→Led→Prop} (h:Q true σ):T prog w C A σ (tests [] env) Q E:=fun _ S=>wpAny_pure ⟨_,h,S⟩
theorem tests_false (ifs:List Expr) (env:Env):(forIn ifs false fun c r=>if r = true then do let ok ← isTrue c env (eval c env); Pure.pure (ForInStep.yield ok) else Pure.pure (ForInStep.yield r)) = (Pure.pure false:Sem Bool):=by
  induction ifs with
  | nil=>rfl
  | cons c r ih=>rw [List.forIn_cons]; exact ih
theorem T_tests1 {c:Expr} {cs:List Expr} {Q:Bool→Led→Prop} (h:T prog w C A σ (isTrue c env (eval c env)) (fun ok σ'=>if ok = true then T prog w C A σ' (tests cs env) Q E else Q false σ') E):T prog w C A σ (tests (c::cs) env) Q E:=fun s S=>by
  show wpAny _ _ (forIn (c::cs) true _) _ _ _
  rw [List.forIn_cons]
  refine wpAny_bind ?_
  rw [if_pos rfl]
  refine wpAny_bind (h.k S fun ok σ' s' h' S'=>wpAny_pure ?_)
  cases ok with
  | true=>exact h' s' S'
  | false =>
    show wpAny _ _ (forIn cs false _) _ _ _
    rw [tests_false]
    exact wpAny_pure ⟨_,h',S'⟩
theorem compU {it:Addr} {elt iter:Expr} {x:Str} {px:Pos} {ifs:List Expr} {scope:Scope} {pos:Pos} {cl:List (Str × Addr)} {Q:Value→Led→Prop} {use:Option (Value→Sem Unit)} {po:Nat→PO} {xs:List Value} {need:Led→Prop}
    (I:Its C prog w A it po xs need) (J:List Value→List Value→Led→Prop) (h0:J xs [] τ)
    (hn:∀ r ys τ,J r ys τ→need τ) (hsz:∀ r ys τ,J r ys τ→ys.length≤1000000) (hk:scope.kind = .function) (hx:scope.names.lookup x = some .local) (hcell:∀ y∈scope.names,y.2 ≠ .cell)
    (turn:∀ D L pv r ys τ i m,J (pv::r) ys τ→T prog w C A ((it,po i)::(L,.ns ((x,pv)::m))::(D,.lst ys)::τ) (tests ifs (compEnvC scope cl L env)) (fun ok σ₁ =>
      if ok = true then T prog w C A σ₁ (eval elt (compEnvC scope cl L env)) (fun y σ₂=>∃ τ',J r (ys ++ [er y]) τ'∧((it,po i)::(L,.ns ((x,pv)::m))::(D,.lst ys)::τ').Sublist σ₂) NoE
      else ∃ τ',J r ys τ'∧((it,po i)::(L,.ns ((x,pv)::m))::(D,.lst ys)::τ').Sublist σ₁) NoE)
    (fin:∀ ys τ,J [] ys τ→FinC prog w C A τ (.lst ys) Q E use) (hneed:∀ q τ,need τ→need (q::τ):=by intro _ _ h; first | exact .tail _ h | exact h) :
    CompT prog w C A ((it,po 0)::τ) env (.ListComp elt [⟨.Name x px,iter,ifs,0⟩] scope pos) scope cl (newList []) use Q E (.ref it):=by
  intro s S
  unfold CompRestU
  refine wpAny_newObj_type ?_
  have S₁:=S.push (p:=.lst []) (o:={ cls:=.type "list", data:=.seq ([]:List Value).toArray }) ⟨_,_,rfl,rfl⟩ rfl s.toks
  generalize hD:s.heap.objs.size = D at S₁
  generalize hs₁:({ s with heap:=s.heap.push { cls:=.type "list", data:=.seq ([]:List Value).toArray },toks:=s.toks }:Shared) = s₁ at S₁
  refine wpAny_newFunctionEnv hcell (by intro y hy; simp at hy) (fun h₁ hns hsb=>?_) hk
  obtain ⟨oL,hoL,hpL⟩:=PO.of_ns (m:=[]) hns (fun x=>rfl)
  have kk:∀ b o,s₁.heap.get? b = some o→h₁.get? b = some o:=fun b o e=>hsb.extBut b o (Nat.ne_of_lt (Heap.lt_size e)) (Heap.get?_push_of_some _ e)
  have S₂:=S₁.grow kk (Nat.le_refl _) hoL hpL (s₁.toks + ([]:List (Str × Value)).length)
  generalize hL:s₁.heap.objs.size = L at *
  have S₃:=S₂.perm (σ':=(it,po 0)::(L,.ns [])::(D,.lst [])::τ) ((List.Perm.cons _ (List.Perm.swap _ _ _)).trans (List.Perm.swap _ _ _))
  refine compRun (cenv:=compEnvC scope cl L env) (xs:=xs) I J S₃ h0 hn hsz (lookup_relabel_local hx) (by simp [compEnvC,relabel,hk]) hneed (fun pv r ys τ i m s₁ hJ S'=>?_) fun ys τ m s₁ hJ S'=>?_
  · refine (turn D L pv r ys τ i m hJ).kN S' fun ok σ₁ s₂ h₁ S₂=>?_
    cases ok with
    | true=>exact T.kN (E':=fun _ _=>False) h₁ S₂ fun y σ₂ s₃ ⟨τ',hJ',hs⟩ S₃=>⟨τ',hJ',S₃.sub hs⟩
    | false =>
      obtain ⟨τ',hJ',hs⟩:=h₁
      exact ⟨τ',hJ',S₂.sub hs⟩
  · exact (fin ys τ hJ).post S'
theorem T_comp {β:Type} {it:Addr} {elt iter:Expr} {x:Str} {px:Pos} {ifs:List Expr} {scope:Scope} {pos:Pos} {cl:List (Str × Addr)} {Q:Value→Led→Prop} {use:Option (Value→Sem Unit)} {po:Nat→PO} {need:Led→Prop} (l:List β) (g:β→Value) (f:β→Option Value)
    (I:Its C prog w A it po (l.map g) need) (hn:need τ) (hz:l.length≤1000000) (hk:scope.kind = .function) (hx:scope.names.lookup x = some .local) (hcell:∀ y∈scope.names,y.2 ≠ .cell)
    (turn:∀ D L b ys i m,b∈l→T prog w C A ((it,po i)::(L,.ns ((x,g b)::m))::(D,.lst ys)::τ) (tests ifs (compEnvC scope cl L env)) (fun ok σ₁ =>
      if ok = true then T prog w C A σ₁ (eval elt (compEnvC scope cl L env)) (fun y σ₂=>f b = some (er y)∧((it,po i)::(L,.ns ((x,g b)::m))::(D,.lst ys)::τ).Sublist σ₂) NoE
      else f b = none∧((it,po i)::(L,.ns ((x,g b)::m))::(D,.lst ys)::τ).Sublist σ₁) NoE)
    (fin:FinC prog w C A τ (.lst (l.filterMap f)) Q E use) (hneed:∀ q τ,need τ→need (q::τ):=by intro _ _ h; first | exact .tail _ h | exact h) :
    CompT prog w C A ((it,po 0)::τ) env (.ListComp elt [⟨.Name x px,iter,ifs,0⟩] scope pos) scope cl (newList []) use Q E (.ref it):=by
  refine compU (xs:=l.map g) I (fun r ys τ'=>τ' = τ∧∃ done rest,l = done ++ rest∧r = rest.map g∧ys = done.filterMap f) ⟨rfl,[],l,rfl,rfl,rfl⟩ (fun r ys τ' h=>h.1 ▸ hn) (fun r ys τ' h=>?_) hk hx hcell (fun D L pv r ys τ' i m h=>?_) (fun ys τ' h=>?_) hneed
  · obtain ⟨_,done,rest,e,_,rfl⟩:=h
    have:=List.length_filterMap_le f done
    have : done.length≤l.length:=by rw [e,List.length_append]; wtm_at "om"
    wtm_at "om"
  · obtain ⟨rfl,done,rest,e,hr,rfl⟩:=h
    cases rest with
    | nil=>cases hr
    | cons b rest =>
      rw [List.map_cons] at hr
      injection hr with h1 h2
      subst h1 h2
      have hb:b∈l:=by rw [e]; exact List.mem_append_right _ (.head _)
      have e':l = (done ++ [b]) ++ rest:=by rw [e,List.append_assoc]; rfl
      refine (turn D L b _ i m hb).mono (fun ok σ₁ h₁=>?_) fun _ _ e=>e
      cases ok with
      | true =>
        refine T.mono h₁ (fun y σ₂ h₂=>⟨τ',⟨rfl,done ++ [b],rest,e',rfl,?_⟩,h₂.2⟩) fun _ _ e=>e
        rw [List.filterMap_append,List.filterMap_cons,h₂.1]; rfl
      | false =>
        have h₁:f b = none∧_:=h₁
        refine ⟨τ',⟨rfl,done ++ [b],rest,e',rfl,?_⟩,h₁.2⟩
        rw [List.filterMap_append,List.filterMap_cons,h₁.1]; simp
  · obtain ⟨rfl,done,rest,e,hr,rfl⟩:=h
    have : rest = []:=List.map_eq_nil_iff.mp hr.symm
    subst this
    rw [List.append_nil] at e
    subst e
    exact fin
theorem T_gmAppend {l:Addr} {xs:List Value} {pl:Sem Bool} {Q:Value × List Value→Led→Prop} (hl:(l,.lst xs)∈σ) (h:Q (.builtin "list.append", [.ref l]) σ):T prog w C A σ (getMethod (.ref l) (Str.ofString "append") pl) Q E:=fun _ S=>gmL PySem.slot_list_append PySem.type_list_append S hl ⟨_,h,S⟩
theorem T_gmExtend {l:Addr} {xs:List Value} {pl:Sem Bool} {Q:Value × List Value→Led→Prop} (hl:(l,.lst xs)∈σ) (h:Q (.builtin "list.extend", [.ref l]) σ):T prog w C A σ (getMethod (.ref l) (Str.ofString "extend") pl) Q E:=fun _ S=>gmL PySem.F.slot_list_extend PySem.F.type_list_extend S hl ⟨_,h,S⟩
theorem T_gmPop {l:Addr} {xs:List Value} {pl:Sem Bool} {Q:Value × List Value→Led→Prop} (hl:(l,.lst xs)∈σ) (h:Q (.builtin "list.pop", [.ref l]) σ):T prog w C A σ (getMethod (.ref l) (Str.ofString "pop") pl) Q E:=fun _ S=>gmL PySem.F.slot_list_pop PySem.F.type_list_pop S hl ⟨_,h,S⟩
theorem T_append {l:Addr} {xs:List Value} {v:Value} {Q:Value→Led→Prop} (U:Upd l (.lst xs) (.lst (xs ++ [er v])) σ σ') (hz:xs.length≤1000000) (h:Q .none σ'):T prog w C A σ (call (.builtin "list.append") [.ref l,v]) Q E:=fun _ S=>appendS S U hz fun _ S'=>⟨_,h,S'⟩
theorem T_pop {l:Addr} {xs:List Value} {v:Value} {Q:Value→Led→Prop} (U:Upd l (.lst (xs ++ [v])) (.lst xs) σ σ') (hz:xs.length≤1000000) (h:Vs v fun v=>Q v σ'):T prog w C A σ (call (.builtin "list.pop") [.ref l]) Q E:=fun _ S=>popS S U hz fun _ S'=>h.led S'
theorem T_addL {l b:Addr} {xs ys:List Value} {Q:Value→Led→Prop} (hl:(l,.lst xs)∈σ) (hb:(b,.lst ys)∈σ) (hz:xs.length + ys.length≤1000000) (h:∀ D,Q (.ref D) ((D,.lst (xs ++ ys))::σ)):T prog w C A σ (binaryOp .Add (.ref l) (.ref b)) Q E:=fun _ S=>addL S hl hb hz fun D _ S'=>⟨_,h D,S'⟩
theorem T_lenL {l:Addr} {xs:List Value} {Q:Value→Led→Prop} (hl:(l,.lst xs)∈σ) (hz:xs.length≤1000000) (h:∀ t,Q (.int xs.length t) σ):T prog w C A σ (call (.builtin "len") [.ref l]) Q E:=fun _ S=>lenL S hl hz fun t _ S'=>⟨_,h t,S'⟩
theorem T_lenS {x:Str} {t:Tok} {Q:Value→Led→Prop} (hz:x.length≤1000000) (h:∀ t,Q (.int x.length t) σ):T prog w C A σ (call (.builtin "len") [.str x t]) Q E:=fun _ S=>lenT S hz fun t _ S'=>⟨_,h t,S'⟩
theorem T_itemL {value slice:Expr} {l:Addr} {xs:List Value} {k:Int} {u:Tok} {pv:Value} {Q:Value→Led→Prop} (hl:(l,.lst xs)∈σ) (h0:0≤k) (hfit:k < 2 ^ 63) (hx:xs[k.toNat]? = some pv) (h:Vs pv (fun v=>Q v σ))
    (hs:subscripted slice false (.ref l) (.int k u) = operate [.ref l,.int k u] (getItem (.ref l) (.int k u)):=by with_unfolding_all rfl):T prog w C A σ (subscriptTail value slice (.ref l) (.int k u)) Q E:=fun _ S=>itemL S hl h0 hfit hx (h.led S) hs
theorem T_gmSplit {x:Str} {t:Tok} {pl:Sem Bool} {Q:Value × List Value→Led→Prop} (h:Q (.builtin "str.split", [.str x t]) σ):T prog w C A σ (getMethod (.str x t) (Str.ofString "split") pl) Q E:=fun _ S=>GM.split ⟨_,h,S⟩
theorem T_gmLower {x:Str} {t:Tok} {pl:Sem Bool} {Q:Value × List Value→Led→Prop} (h:Q (.builtin "str.lower", [.str x t]) σ):T prog w C A σ (getMethod (.str x t) (Str.ofString "lower") pl) Q E:=fun _ S=>GM.lower ⟨_,h,S⟩
theorem T_gmUpper {x:Str} {t:Tok} {pl:Sem Bool} {Q:Value × List Value→Led→Prop} (h:Q (.builtin "str.upper", [.str x t]) σ):T prog w C A σ (getMethod (.str x t) (Str.ofString "upper") pl) Q E:=fun _ S=>GM.upper ⟨_,h,S⟩
theorem T_gmEndswith {x:Str} {t:Tok} {pl:Sem Bool} {Q:Value × List Value→Led→Prop} (h:Q (.builtin "str.endswith", [.str x t]) σ):T prog w C A σ (getMethod (.str x t) (Str.ofString "endswith") pl) Q E:=fun _ S=>GM.endswith ⟨_,h,S⟩
theorem T_gmJoin {x:Str} {t:Tok} {pl:Sem Bool} {Q:Value × List Value→Led→Prop} (h:Q (.builtin "str.join", [.str x t]) σ):T prog w C A σ (getMethod (.str x t) (Str.ofString "join") pl) Q E:=fun _ S=>GM.join ⟨_,h,S⟩
theorem T_addS {x y:Str} {t u:Tok} {Q:Value→Led→Prop} (hz:x.length + y.length≤1000000) (h:∀ t,Q (.str (x ++ y) t) σ):T prog w C A σ (binaryOp .Add (.str x t) (.str y u)) Q E:=fun _ S =>
  withTk (add_str (fun t' tk hk=>⟨_,h t',S.tok tk hk⟩) (by rw [sizeLine_eq]; wtm_at "om")) S.tk
theorem T_split {x y:Str} {t u:Tok} {Q:Value→Led→Prop} (hy:(y.length == 0) = false) (hx:x.length≤1000000) (hn:(Txt.split x y).length≤1000000) (h:∀ D,Q (.ref D) ((D,.lst (txts (Txt.split x y)))::σ)):T prog w C A σ (call (.builtin "str.split") [.str x t,.str y u]) Q E :=
  fun _ S=>splitS S hy hx hn fun D _ S'=>⟨_,h D,S'⟩
theorem T_endswith {x y:Str} {t u:Tok} {Q:Value→Led→Prop} (h:Q (.bool (Txt.endswith x y)) σ):T prog w C A σ (call (.builtin "str.endswith") [.str x t,.str y u]) Q E:=fun _ S=>SC.endswith ⟨_,h,S⟩
theorem T_join {x:Str} {t:Tok} {l:Addr} {xs:List Str} {Q:Value→Led→Prop} (hl:(l,.lst (txts xs))∈σ) (h1:xs.foldl (fun n p=>n + p.length + x.length) 0≤1000000) (h2:(Builtin.Str.glued x xs).length≤1000000) (h:∀ t,Q (.str (Builtin.Str.glued x xs) t) σ) :
    T prog w C A σ (call (.builtin "str.join") [.str x t,.ref l]) Q E:=fun _ S=>joinS S hl h1 h2 fun t _ S'=>⟨_,h t,S'⟩
theorem T_addI {a b:Int} {t u:Tok} {Q:Value→Led→Prop} (h:∀ t,Q (.int (a + b) t) σ):T prog w C A σ (binaryOp .Add (.int a t) (.int b u)) Q E:=fun _ S=>add_int ⟨_,h _,S.tok _⟩
theorem T_modI {a b:Int} {t u:Tok} {Q:Value→Led→Prop} (hb:b ≠ 0) (h:∀ t,Q (.int (a.fmod b) t) σ):T prog w C A σ (binaryOp .Mod (.int a t) (.int b u)) Q E:=fun _ S=>mod_int' hb ⟨_,h _,S.tok _⟩
theorem T_divI {a b:Int} {t u:Tok} {Q:Value→Led→Prop} (hb:b ≠ 0) (hp:Builtin.divisionGoesByPylong a b = false) (h:∀ t,Q (.int (a.fdiv b) t) σ):T prog w C A σ (binaryOp .FloorDiv (.int a t) (.int b u)) Q E:=fun _ S=>floordiv_int hb ⟨_,h _,S.tok _⟩ (.inl hp)
theorem T_powI {a n:Int} {t u:Tok} {Q:Value→Led→Prop} (hn:0≤n) (hz:(Builtin.Int.intBits a:Int) * n≤2 ^ 27) (h:∀ t,Q (.int (a ^ n.toNat) t) σ):T prog w C A σ (binaryOp .Pow (.int a t) (.int n u)) Q E:=fun _ S=>pow_int hn hz ⟨_,h _,S.tok _⟩
theorem T_ltI {a b:Int} {t u:Tok} {Q:Value→Led→Prop} (h:Q (.bool (decide (a < b))) σ):T prog w C A σ (compareOp .Lt (.int a t) (.int b u)) Q E:=fun _ S=>lt_int ⟨_,h,S⟩
theorem T_eqI {a b:Int} {t u:Tok} {Q:Value→Led→Prop} (h:Q (.bool (a == b)) σ):T prog w C A σ (compareOp .Eq (.int a t) (.int b u)) Q E:=fun _ S=>P.eq_int ⟨_,h,S⟩
end
theorem Vs_ref {a:Addr} {P:Value→Prop} (h:P (.ref a)):Vs (.ref a) P:=h
theorem Vs_none {P:Value→Prop} (h:P .none):Vs .none P:=h
theorem Vs_bool {b:Bool} {P:Value→Prop} (h:P (.bool b)):Vs (.bool b) P:=h
theorem Vs_str {x:Str} {u:Tok} {P:Value→Prop} (h:∀ t,P (.str x t)):Vs (.str x u) P:=h
theorem Vs_int {i:Int} {u:Tok} {P:Value→Prop} (h:∀ t,P (.int i t)):Vs (.int i u) P:=h
theorem T_t0 {prog:Program} {w:World} {C:Cx} {A:Around} {σ:Led} {E:Value→Led→Prop} {env:Env} {X Y:Led→Prop} (h:X σ):T prog w C A σ (tests [] env) (fun ok σ₁=>if ok = true then X σ₁ else Y σ₁) E:=T_tests0 (ifT rfl h)
theorem T.opq {prog:Program} {w:World} {C:Cx} {A:Around} {σ:Led} {E:Value→Led→Prop} {α:Type} {t:Sem α} {Q:α→Led→Prop} (h:∀ Q':α→Led→Prop,(∀ a σ',Q a σ'→Q' a σ')→T prog w C A σ t Q' E):T prog w C A σ t Q E:=h Q fun _ _ h=>h
theorem led_orStandIn (t:SetTable) (n:Nat):(t.orStandIn n).led = t.led:=by unfold SetTable.orStandIn; split <;> rfl
theorem plain_orStandIn (t:SetTable) (n:Nat) (h:t.plain = false):(t.orStandIn n).plain = false:=by unfold SetTable.orStandIn; split <;> first | exact h | rfl
theorem led_layNew (t:SetTable) (es:Array (Int × Value)) (h:Int) (x:Value):(layNew t es h x).2.1.led = t.led:=by
  unfold layNew
  cases t.freeSlot h with
  | none=>rfl
  | some q=>exact led_orStandIn _ _
theorem plain_layNew (t:SetTable) (es:Array (Int × Value)) (h:Int) (x:Value) (hp:t.plain = false):(layNew t es h x).2.1.plain = false:=by
  unfold layNew
  cases t.freeSlot h with
  | none=>rfl
  | some q=>exact plain_orStandIn _ _ hp
theorem laid_led {mask finger moves:Nat} {led plain:Bool} {hs:Array Int} {r:SetTable × Array Nat} (h:SetTable.laid mask finger moves led plain hs = some r):r.1.led = led∧r.1.plain = plain:=by
  unfold SetTable.laid at h
  cases hc:SetTable.layClean mask hs with
  | none=>rw [hc] at h; cases h
  | some o=>rw [hc] at h; cases h; exact ⟨rfl,rfl⟩
theorem led_relayAll (t:SetTable) (es:Array (Int × Value)) (n:Nat):(relayAll t es n).2.1.led = t.led:=by
  unfold relayAll
  cases hr:t.relaid (es.map (·.1)) n with
  | none=>rfl
  | some q =>
    dsimp only
    split
    · exact (laid_led hr).1
    · rfl
theorem plain_relayAll (t:SetTable) (es:Array (Int × Value)) (n:Nat) (hp:t.plain = false):(relayAll t es n).2.1.plain = false:=by
  unfold relayAll
  cases hr:t.relaid (es.map (·.1)) n with
  | none=>rfl
  | some q =>
    dsimp only
    split
    · exact (laid_led hr).2.trans hp
    · rfl
theorem has_empty (j:Nat):SetTable.has #[] j = false:=by simp [SetTable.has]
theorem probe_dummy {t:SetTable} (hd:t.dummies = #[]) (f:Nat→Int) (h:Int):∀ (n:Nat) (p:SetTable.Probe),p.dummy = none→∀ j d,SetTable.probe.go t f h n p = some (.empty j d)→d = none:=by
  intro n
  induction n with
  | zero=>intro p _ j d h; cases h
  | succ n ih =>
    intro p hp j d h'
    have adv:∀ p:SetTable.Probe,p.dummy = none→(t.advance p).dummy = none:=fun p hp=>by
      unfold SetTable.advance
      split
      · exact hp
      · exact hp
    have h':(match t.slot p.j with | .empty=>some (SetTable.Met.empty p.j p.dummy) | .dummy=>SetTable.probe.go t f h n (t.advance { p with dummy:=some p.j }) | .live i=>if f i == h then some (SetTable.Met.candidate p.j i (t.advance p)) else SetTable.probe.go t f h n (t.advance p)) = some (SetTable.Met.empty j d):=h'
    cases hs:t.slot p.j with
    | empty=>rw [hs] at h'; cases h'; exact hp
    | dummy =>
      unfold SetTable.slot at hs
      rw [hd,has_empty] at hs
      dsimp only at hs
      split at hs <;> cases hs
    | live i =>
      rw [hs] at h'
      by_cases hq:(f i == h) = true
      · have h':(if (f i == h) = true then some (SetTable.Met.candidate p.j i (t.advance p)) else SetTable.probe.go t f h n (t.advance p)) = some (SetTable.Met.empty j d):=h'
        rw [if_pos hq] at h'; cases h'
      · have h':(if (f i == h) = true then some (SetTable.Met.candidate p.j i (t.advance p)) else SetTable.probe.go t f h n (t.advance p)) = some (SetTable.Met.empty j d):=h'
        rw [if_neg hq] at h'
        exact ih _ (adv p hp) j d h'
theorem freeSlot_dummy {t:SetTable} (hd:t.dummies = #[]) {h:Int} {j:Nat} {b:Bool} (e:t.freeSlot h = some (j,b)):b = false:=by
  unfold SetTable.freeSlot at e
  cases hp:t.probe (fun _=>h + 1) h (t.probeStart h) with
  | none=>rw [hp] at e; cases e
  | some m =>
    rw [hp] at e
    cases m with
    | empty j' d =>
      have : d = none:=probe_dummy hd _ _ _ _ rfl _ _ hp
      subst this
      cases e; rfl
    | candidate=>cases e
theorem dum_orStandIn {t:SetTable} {n:Nat} (hd:t.dummies = #[]):(t.orStandIn n).dummies = #[]:=by unfold SetTable.orStandIn; split <;> first | exact hd | rfl
theorem dum_layNew {t:SetTable} (hd:t.dummies = #[]) (es:Array (Int × Value)) (h:Int) (x:Value):(layNew t es h x).2.1.dummies = #[]∧(layNew t es h x).2.2.1 = false:=by
  unfold layNew
  cases e:t.freeSlot h with
  | some q =>
    obtain ⟨j,b⟩:=q
    refine ⟨dum_orStandIn ?_,freeSlot_dummy hd e⟩
    unfold SetTable.put
    rw [hd,has_empty]
    rfl
  | none=>exact ⟨rfl,rfl⟩
theorem sizeAbove_gt (n:Nat):∀ (f s:Nat),n < s * 2 ^ f→n < SetTable.sizeAbove.go n f s:=by
  intro f
  induction f with
  | zero=>exact fun s h=>Nat.lt_of_lt_of_eq h (Nat.mul_one s)
  | succ f ih =>
    intro s h
    show n < if s≤n then SetTable.sizeAbove.go n f (s * 2) else s
    split
    · exact ih _ (by rw [Nat.mul_assoc,← Nat.pow_succ']; exact h)
    · rename_i hc; exact Nat.lt_of_not_le hc
theorem roomy_relayAll (t:SetTable) (es:Array (Int × Value)) (hn:es.size < 4000) (h0:0 < es.size):(relayAll t es (SetTable.grown es.size)).2.1.dummies = #[]∧(relayAll t es (SetTable.grown es.size)).2.1.tooFull = false:=by
  have hst:(t.standIn es.size).tooFull = false:=by
    simp [SetTable.tooFull,SetTable.standIn,SetTable.fill]
    wtm_at "om"
  unfold relayAll
  cases hr:t.relaid (es.map (·.1)) (SetTable.grown es.size) with
  | none=>exact ⟨rfl,hst⟩
  | some q =>
    obtain ⟨t',order⟩:=q
    dsimp only
    split
    · rename_i hc
      simp only [Bool.and_eq_true] at hc
      have hf:=hc.2
      have hsz:(order.filterMap (es[·]?)).size = es.size:=by
        have hp:List.Perm order.toList (List.range es.size):=List.isPerm_iff.mp (by simp [coversAll] at hc; exact hc.1)
        rw [← Array.length_toList,Array.toList_filterMap,(hp.filterMap _).length_eq,filterMap_getElem?_range,Array.length_toList]
      unfold SetTable.relaid SetTable.laid at hr
      cases hl:SetTable.layClean (SetTable.sizeAbove (SetTable.grown es.size) - 1) (es.map (·.1)) with
      | none=>rw [hl] at hr; cases hr
      | some o =>
        rw [hl] at hr
        cases hr
        refine ⟨rfl,?_⟩
        have hg:SetTable.grown es.size = es.size * 4:=by unfold SetTable.grown; rw [if_neg (by wtm_at "om")]
        have hsa:es.size * 4 < SetTable.sizeAbove (es.size * 4):=sizeAbove_gt _ 64 8 (by wtm_at "om")
        unfold SetTable.fits at hf
        rw [Bool.and_eq_true,beq_iff_eq] at hf
        unfold SetTable.tooFull SetTable.fill
        have hf1:=hf.1.trans hsz
        dsimp only at hf1
        rw [hf1]
        simp only [hg,List.size_toArray,List.length_nil,Nat.add_zero,decide_eq_false_iff_not]
        wtm_at "om"
    · exact ⟨rfl,hst⟩
noncomputable def spo (prog:Program) (w:World) (xs:List Str) (o:Obj):Prop :=
  o.ExactSet∧∃ es ep t,o.data = .set es ep t∧ElemsOf (PySem.strKind prog w) es.toList∧(es.toList.map fun e=>txtOf e.2).Perm xs∧xs.Nodup∧t.fits es.size = true∧t.led = !w.params.followText "set-order" ∧ (t.plain = true→es.size = 0)∧t.dummies = #[]∧t.tooFull = false
noncomputable def sps (prog:Program) (w:World) (xs:List Str):PO:=.prd (spo prog w xs)
section
variable {prog:Program} {w:World} {A:Around} {E:Value→Shared→Prop} {C:Cx} {σ σ' σ'' τ:Led} {s:Shared} {a:Addr} {xs:List Str} {x:Str} {t:Tok}
theorem strIs {k:Str} {v:Value} (h:(PySem.strKind prog w).is k v = true):∃ t,v = .str k t:=Value.isStrOf_shape h
theorem elem_txt {es:List (Int × Value)} (h:ElemsOf (PySem.strKind prog w) es) {e:Int × Value} (he:e∈es):∃ t,e.2 = .str (txtOf e.2) t∧e.1 = (PySem.strKind prog w).hash (txtOf e.2):=by
  obtain ⟨⟨k,hk,hh⟩,_⟩:=h e he
  obtain ⟨t,ht⟩:=strIs hk
  exact ⟨t,by rw [ht]; rfl,by rw [ht]; exact hh⟩
theorem _root_.R3.Upd.refl2 {p p':PO} (U:Upd a p p' σ σ'):Upd a p' p' σ' σ':=by
  induction U with
  | head=>exact .head
  | tail _ ih=>exact .tail ih
theorem _root_.R3.Upd.back {p p':PO} (U:Upd a p p' σ σ'):Upd a p' p σ' σ:=by
  induction U with
  | head=>exact .head
  | tail _ ih=>exact .tail ih
theorem _root_.R3.Upd.ex {p p':PO} (hm:(a,p)∈σ):∃ σ',Upd a p p' σ σ':=by
  induction σ with
  | nil=>cases hm
  | cons q r ih =>
    rcases List.mem_cons.mp hm with rfl | hm
    · exact ⟨_,.head⟩
    · obtain ⟨σ',U⟩:=ih hm; exact ⟨_,.tail U⟩
theorem _root_.R3.Sat.pin {p:PO} {o:Obj} (S:Sat C σ s) (U:Upd a p (.raw o) σ σ') (ho:s.heap.get? a = some o):Sat C σ' s :=
  ⟨S.old,S.stat,fun q hq=>by
    rcases U.cases S.nd q hq with rfl | ⟨h1,_⟩
    · exact ⟨o,ho,rfl⟩
    · exact S.led q h1,
   fun q hq=>by
    rcases U.cases S.nd q hq with rfl | ⟨h1,_⟩
    · exact S.low (a,p) U.mem
    · exact S.low q h1,by rw [U.keys]; exact S.nd,S.os,S.gens,S.gl,S.tk,fun q hq=>by rw [U.keys]; exact S.lam q hq⟩
theorem _root_.R3.Sat.unpin {p:PO} {o:Obj} (S:Sat C σ' s) (U:Upd a p (.raw o) σ σ') (hp:p.Of o):Sat C σ s:=by
  have B:=U.back
  have key:∀ q∈σ,q = (a,p) ∨ (q∈σ'∧q.1 ≠ a):=B.cases S.nd
  refine ⟨S.old,S.stat,fun q hq=>?_,fun q hq=>?_,by rw [← U.keys]; exact S.nd,S.os,S.gens,S.gl,S.tk,fun q hq=>by rw [← U.keys]; exact S.lam q hq⟩
  · rcases key q hq with rfl | ⟨h1,_⟩
    · obtain ⟨o',ho',e⟩:=S.get B.mem
      have e:o' = o:=e
      exact ⟨o,by rw [ho',e],hp⟩
    · exact S.led q h1
  · rcases key q hq with rfl | ⟨h1,_⟩
    · exact S.low (a,.raw o) B.mem
    · exact S.low q h1
theorem newSetP {Q:Value→Shared→Prop} (S:Sat C σ s) (h:∀ a s',Sat C ((a,sps prog w [])::σ) s'→Q (.ref a) s'):wpAny (model prog w) A (newSet (.type "set")) Q E s:=by
  unfold newSet setsByText
  refine wpAny_bind (wpAny_bind (wpAny_askSetting (wpAny_pure ?_)))
  refine wpAny_newObj_type (h _ _ (S.push (p:=sps prog w []) ⟨⟨rfl,rfl,rfl⟩,#[],0,_,rfl,(fun e he=>by simp at he),.refl _,.nil,rfl,rfl,fun _=>rfl,rfl,rfl⟩ rfl s.toks))
theorem setAddP {Q:Bool→Shared→Prop} (S:Sat C σ s) (U:Upd a (sps prog w xs) (sps prog w (if x∈xs then xs else xs ++ [x])) σ σ') (hz:xs.length < 3000) (h:∀ b s',Sat C σ' s'→Q b s') :
    wpAny (model prog w) A (setAddHashed a (.str x t) ((PySem.strKind prog w).hash x)) Q E s:=by
  obtain ⟨o,ho,hex,es,ep,tb,hd,hel,hpm,hnd,hf,hled,hpl,hdum,hful⟩:=S.get U.mem
  have hn:es.size = xs.length:=by rw [← hpm.length_eq,List.length_map,Array.length_toList]
  have hb:es.size < scanBound:=by rw [hn]; show _ < 4096; wtm_at "om"
  have hmem:x∈xs↔∃ e∈es.toList,(PySem.strKind prog w).is x e.2 = true:=by
    rw [← hpm.mem_iff,List.mem_map]
    constructor
    · rintro ⟨e,he,rfl⟩
      obtain ⟨t,e1,_⟩:=elem_txt hel he
      exact ⟨e,he,by rw [e1]; exact strKind_is ..⟩
    · rintro ⟨e,he,hi⟩
      obtain ⟨t,e1⟩:=strIs hi
      exact ⟨e,he,by rw [e1]; rfl⟩
  unfold setAddHashed setAddHashedIn
  refine wpAny_holding (wpAny_bind (wpAny_setState_of ho hd hf ?_))
  dsimp only
  rw [byScan_of rfl hb hel]
  rw [if_pos rfl]
  unfold setAddByScan
  refine wpAny_bind (wpAny_bind (wpAny_rule (wpAny_bind (wpAny_setScan_of (knd:=PySem.strKind prog w) (k:=x) (strKind_is ..) ho hd hf hel ?_))))
  cases hr:List.findIdx? (fun e=>(PySem.strKind prog w).is x e.2) es.toList with
  | some j =>
    dsimp only
    obtain ⟨hj,hpj,_⟩:=List.findIdx?_eq_some_iff_getElem.mp hr
    have hx:x∈xs:=hmem.mpr ⟨_,List.getElem_mem hj,hpj⟩
    rw [if_pos hx] at U
    have:=U.same S.nd
    subst this
    exact wpAny_pure (wpAny_pure (h _ _ S))
  | none =>
    dsimp only
    have hx:x ∉ xs:=fun hx=>by
      obtain ⟨e,he,hp⟩:=hmem.mp hx
      have:=List.findIdx?_eq_none_iff.mp hr e he
      rw [hp] at this; exact Bool.noConfusion this
    rw [if_neg hx] at U
    have hgw:∀ (b:Bool) {s₁:Shared} {Q':Unit→Shared→Prop},Q' () s₁→wpAny (model prog w) A (match b with | true=>rule "set.scan.the-table-gave-way" | false=>pure ()) Q' E s₁ :=
      fun b s₁ Q' hq=>by cases b <;> first | exact wpAny_pure hq | exact wpAny_rule hq
    have hperm:=layNew_perm tb es ((PySem.strKind prog w).hash x) (.str x t)
    have hfits:=layNew_fits tb es ((PySem.strKind prog w).hash x) (.str x t)
    have hl1:=led_layNew tb es ((PySem.strKind prog w).hash x) (.str x t)
    have hp1:=plain_layNew tb es ((PySem.strKind prog w).hash x) (.str x t)
    have hdm1:=dum_layNew hdum es ((PySem.strKind prog w).hash x) (.str x t)
    generalize layNew tb es ((PySem.strKind prog w).hash x) (.str x t) = Lr at hperm hfits hl1 hp1 hdm1 ⊢
    obtain ⟨es1,t1,wd,gv⟩:=Lr
    dsimp only at hperm hfits hl1 hp1 hdm1 ⊢
    obtain ⟨hdm1,rfl⟩:=hdm1
    rw [Array.toList_push] at hperm
    have hel1:ElemsOf (PySem.strKind prog w) es1.toList:=(hel.push (strKind_is ..) rfl).perm hperm
    have hpm1:(es1.toList.map fun e=>txtOf e.2).Perm (xs ++ [x]):=(hperm.map _).trans (by rw [List.map_append]; exact hpm.append_right _)
    have hnd1:(xs ++ [x]).Nodup:=by
      rw [List.nodup_append]
      exact ⟨hnd,List.pairwise_singleton _ _,fun a ha b hb e=>hx (by rw [List.mem_singleton.mp hb] at e; rw [← e]; exact ha)⟩
    have hn1:es1.size = xs.length + 1:=by rw [← Array.length_toList,hperm.length_eq,List.length_append,Array.length_toList,hn]; rfl
    have fin0:∀ (t2:SetTable) (s₁:Shared) (o₁:Obj) ep₁ es₁ t₁,t2.fits es1.size = true→s₁.heap.get? a = some o₁→o₁.ExactSet→o₁.data = .set es₁ ep₁ t₁→∀ Q':Unit→Shared→Prop,(∀ h',Heap.SameBut a s₁.heap h'→h'.get? a = some { o₁ with data:=.set es1 (ep₁ + 1) t2 }→Q' () { s₁ with heap:=h' })→wpAny (model prog w) A (storeSet a es1 t2) Q' E s₁:=by
      intro t2 s₁ o₁ ep₁ es₁ t₁ hf2 ho₁ hex₁ hd₁ Q' hQ'
      refine wpAny_storeSet_of ho₁ hd₁ ?_ (by rw [hn1,sizeLine_eq]; wtm_at "om")
      have hg:=(SetOf_store (knd:=PySem.strKind prog w) (S':=fun k=>decide (∃ e∈es1.toList,(PySem.strKind prog w).is k e.2 = true)) ho₁ hex₁ hd₁ hel1 (fun k=>by rw [decide_eq_true_eq]) (by rw [hn1]; show _ < 4096; wtm_at "om") hf2).1
      exact hQ' _ (Heap.SameBut.update ..) hg
    have fin:∀ (es2:Array (Int × Value)) (t2:SetTable) (s₁:Shared) (σ₁:Led) (p₁:PO) (o₁:Obj) ep₁ es₁ t₁,es2.toList.Perm es1.toList→t2.fits es2.size = true→t2.led = tb.led→t2.plain = false→t2.dummies = #[]→t2.tooFull = false→Sat C σ₁ s₁→Upd a p₁ (sps prog w (xs ++ [x])) σ₁ σ' →
        s₁.heap.get? a = some o₁→o₁.ExactSet→o₁.data = .set es₁ ep₁ t₁→∀ Q':Unit→Shared→Prop,(∀ s',Sat C σ' s'→s'.heap.get? a = some { o₁ with data:=.set es2 (ep₁ + 1) t2 }→Q' () s')→wpAny (model prog w) A (storeSet a es2 t2) Q' E s₁:=by
      intro es2 t2 s₁ σ₁ p₁ o₁ ep₁ es₁ t₁ hp2 hf2 hl2 hpl2 hdm2 hfu2 S₁ U₁ ho₁ hex₁ hd₁ Q' hQ'
      have hel2:ElemsOf (PySem.strKind prog w) es2.toList:=hel1.perm hp2
      have hpm2:=(hp2.map fun e=>txtOf e.2).trans hpm1
      have hsz:es2.size = es1.size:=by rw [← Array.length_toList,hp2.length_eq,Array.length_toList]
      refine wpAny_storeSet_of ho₁ hd₁ ?_ (by rw [hsz,hn1,sizeLine_eq]; wtm_at "om")
      have hg:=(SetOf_store (knd:=PySem.strKind prog w) (S':=fun k=>decide (∃ e∈es2.toList,(PySem.strKind prog w).is k e.2 = true)) ho₁ hex₁ hd₁ hel2 (fun k=>by rw [decide_eq_true_eq]) (by rw [hsz,hn1]; show _ < 4096; wtm_at "om") hf2).1
      exact hQ' _ (S₁.set U₁ (Heap.SameBut.update ..) hg ⟨hex₁,es2,_,t2,rfl,hel2,hpm2,hnd1,hf2,by rw [hl2,hled],fun e=>(by rw [hpl2] at e; cases e),hdm2,hfu2⟩ s₁.toks (by exact S₁.tk)) hg
    refine wpAny_bind (hgw _ ?_)
    have tail:∀ t2:SetTable,t2.fits es1.size = true→t2.led = tb.led→t2.plain = false→t2.dummies = #[]→wpAny (model prog w) A (do
        storeSet a es1 t2
        if (!false && t2.tooFull) = true then do
            (match (relayAll t2 es1 (SetTable.grown es1.size)).2.2 with | true=>rule "set.scan.the-table-gave-way" | false=>pure ())
            storeSet a (relayAll t2 es1 (SetTable.grown es1.size)).1 (relayAll t2 es1 (SetTable.grown es1.size)).2.1
            pure (some true)
          else pure (some true)) (fun r s'=>wpAny (model prog w) A (match r with
      | some added=>pure added
      | none=>setAddHashedIn a (.str x t) ((PySem.strKind prog w).hash x) 99999) Q E s') E s:=by
      intro t2 hf2 hl2 hpl2 hdm2
      cases hfu:t2.tooFull with
      | true =>
        rw [if_pos (by rfl)]
        refine wpAny_bind (fin0 t2 s o ep es tb hf2 ho hex hd _ fun h₁ hs₁ ho₁=>?_)
        refine wpAny_bind (hgw _ ?_)
        have hrf:=roomy_relayAll t2 es1 (by rw [hn1]; wtm_at "om") (by rw [hn1]; wtm_at "om")
        have hp2:=relayAll_perm t2 es1 (SetTable.grown es1.size)
        have hfr:=relayAll_fits t2 es1 (SetTable.grown es1.size)
        have hl3:=(led_relayAll t2 es1 (SetTable.grown es1.size)).trans hl2
        have hpl3:=plain_relayAll t2 es1 (SetTable.grown es1.size) hpl2
        generalize relayAll t2 es1 (SetTable.grown es1.size) = Rl at hrf hp2 hfr hl3 hpl3 ⊢
        obtain ⟨es2,t3,g3⟩:=Rl
        dsimp only at hrf hp2 hfr hl3 hpl3 ⊢
        have hel2:ElemsOf (PySem.strKind prog w) es2.toList:=hel1.perm hp2
        have hpm2:=(hp2.map fun e=>txtOf e.2).trans hpm1
        have hsz:es2.size = es1.size:=by rw [← Array.length_toList,hp2.length_eq,Array.length_toList]
        refine wpAny_bind (wpAny_storeSet_of ho₁ rfl ?_ (by rw [hsz,hn1,sizeLine_eq]; wtm_at "om"))
        have hg:=(SetOf_store (knd:=PySem.strKind prog w) (S':=fun k=>decide (∃ e∈es2.toList,(PySem.strKind prog w).is k e.2 = true)) ho₁ hex rfl hel2 (fun k=>by rw [decide_eq_true_eq]) (by rw [hsz,hn1]; show _ < 4096; wtm_at "om") hfr).1
        refine wpAny_pure (wpAny_pure (h _ _ (S.set U (hs₁.trans (Heap.SameBut.update ..)) hg ⟨hex,es2,_,t3,rfl,hel2,hpm2,hnd1,hfr,by rw [hl3,hled],fun e=>(by rw [hpl3] at e; cases e),hrf.1,hrf.2⟩ s.toks)))
      | false =>
        rw [if_neg (by simp)]
        refine wpAny_bind (fin es1 t2 s σ _ o ep es tb (.refl _) hf2 hl2 hpl2 hdm2 hfu S U ho hex hd _ fun s₁ S₁ ho₁=>?_)
        exact wpAny_pure (wpAny_pure (h _ _ S₁))
    split
    · refine wpAny_bind ?_
      rw [hashByValue_scannable 8 rfl]
      refine wpAny_pure ?_
      exact tail { t1 with plain:=false } (SetTable.fits_plain_off hfits) hl1 rfl hdm1
    · rename_i hnp
      refine wpAny_bind (wpAny_pure ?_)
      rw [if_pos rfl]
      have : t1.plain = false:=by cases h:t1.plain <;> first | rfl | exact absurd h hnp
      exact tail t1 hfits hl1 this hdm1
end
theorem entry_set_iter:entryFor table "set.__iter__" = some Builtin.«frozenset.__iter__» :=
  entryFor_alias (id' := "frozenset.__iter__") (by kernel_rfl) rfl (by decide +kernel) (by kernel_rfl)
theorem entry_setit_iter:entryFor table "set_iterator.__iter__" = some Builtin.«dict_keyiterator.__iter__» :=
  entryFor_alias (id' := "dict_keyiterator.__iter__") (by kernel_rfl) rfl (by decide +kernel) (by kernel_rfl)
theorem slot_setit_next:Slot "set_iterator" "__next__" "set_iterator.__next__" :=
  .of (owner := "set_iterator") (n := "__next__") (by rw [typeLookup_type,builtinLookup_eq_fast]; kernel_rfl) (by decide +kernel) (by decide +kernel) (by decide +kernel)
    (by first | exact .inl (by decide +kernel) | exact .inr (by decide +kernel)) (by rw [isSubtype_type]; kernel_rfl)
theorem slot_setit_iter:Slot "set_iterator" "__iter__" "set_iterator.__iter__" :=
  .of (owner := "set_iterator") (n := "__iter__") (by rw [typeLookup_type,builtinLookup_eq_fast]; kernel_rfl) (by decide +kernel) (by decide +kernel) (by decide +kernel)
    (by first | exact .inl (by decide +kernel) | exact .inr (by decide +kernel)) (by rw [isSubtype_type]; kernel_rfl)
theorem entry_setit_next:entryFor table "set_iterator.__next__" = some Builtin.«set_iterator.__next__»:=entryFor_of_tree (by kernel_rfl)
theorem args_setit_next (a:Value):argsOk "set_iterator.__next__" ⟨[a],[]⟩:=by unfold argsOk; kernel_rfl
theorem slot_set_len':typeLookup (.type "set") "__len__" = pure (some (.builtin "set.__len__")):=by rw [typeLookup_type,builtinLookup_eq_fast]; kernel_rfl
theorem eraseIdx_perm {α:Type} {l:List α} {i:Nat} (h:i < l.length):(l[i]::l.eraseIdx i).Perm l:=by
  rw [List.eraseIdx_eq_take_drop_succ]
  have e:l = l.take i ++ l[i]::l.drop (i + 1):=by rw [List.getElem_cons_drop,List.take_append_drop]
  exact (List.perm_middle.symm.trans (by rw [← e]))
theorem pickGo_perm {α:Type} (next:Nat→Nat):∀ (fuel k:Nat) (left:List α) (out:Array α),fuel = left.length→(pickOrder.go next fuel k left out).toList.Perm (out.toList ++ left)
  | 0,k,left,out,h=>by
    have : left = []:=List.eq_nil_of_length_eq_zero h.symm
    subst this
    rw [List.append_nil]; exact .refl _
  | fuel + 1,k,left,out,h=>by
    show (match left[next k % left.length]? with | some x=>pickOrder.go next fuel (k + 1) (left.eraseIdx (next k % left.length)) (out.push x) | none=>out).toList.Perm (out.toList ++ left)
    have hp:0 < left.length:=by wtm_at "om"
    have hlt:next k % left.length < left.length:=Nat.mod_lt _ hp
    rw [List.getElem?_eq_getElem hlt]
    dsimp only
    refine (pickGo_perm next fuel (k + 1) _ _ ?_).trans ?_
    · rw [List.length_eraseIdx,if_pos hlt]; wtm_at "om"
    · rw [Array.toList_push,List.append_assoc]
      refine List.Perm.append_left _ ?_
      exact (eraseIdx_perm hlt)
theorem below_e (j k:Nat):SetTable.below #[j] k = if j < k then 1 else 0:=by
  show (if (0:Nat) < 1 then (if (#[j]:Array Nat).getD ((0 + 1) / 2) k < k then SetTable.below.go #[j] k 0 ((0 + 1) / 2 + 1) 1 else SetTable.below.go #[j] k 0 0 ((0 + 1) / 2)) else 0) = _
  rw [if_pos (Nat.lt_succ_self 0),show (#[j]:Array Nat).getD ((0 + 1) / 2) k = j from rfl]
  split <;> rfl
theorem below0 (j:Nat):SetTable.below #[j] 0 = 0:=(below_e j 0).trans (if_neg (Nat.not_lt_zero _))
theorem below1 (j:Nat):SetTable.below #[j] (j + 1) = 1:=(below_e j (j + 1)).trans (if_pos (Nat.lt_succ_self j))
theorem pickOrder_perm {α:Type} (next:Nat→Nat) (xs:Array α):(pickOrder next xs).toList.Perm xs.toList:=by
  unfold pickOrder
  have:=pickGo_perm next xs.size 0 xs.toList #[] (by simp)
  simpa using this
section
variable {prog:Program} {w:World} {A:Around} {E:Value→Shared→Prop} {C:Cx} {σ σ' σ'' τ:Led} {s:Shared} {a it:Addr} {xs:List Str} {x:Str} {t:Tok}
theorem Sat.drawn (S:Sat C σ s) (d:Drawn):Sat C σ { s with drawn:=d }:=⟨S.old,S.stat,S.led,S.low,S.nd,S.os,S.gens,S.gl,S.tk,S.lam⟩
theorem wpAny_drawOrder {Q:List Nat→Shared→Prop}:∀ (n:Nat) (l:List Nat) (s:Shared),n = l.length→(∀ l' d,l'.Perm l→Q l' { s with drawn:=d })→wpAny (model prog w) A (drawOrder n l) Q E s
  | 0,l,s,hn,h=>by
    have : l = []:=List.eq_nil_of_length_eq_zero hn.symm
    subst this
    exact wpAny_pure (h [] s.drawn (.refl _))
  | n + 1,[],s,hn,h=>by simp at hn
  | n + 1,y::l,s,hn,h=>by
    show wpAny (model prog w) A (choose .order (y::l).length >>= _) Q E s
    refine wpAny_bind ?_
    have hpos:(y::l).length ≠ 0:=by simp
    intro Γ p hΓ
    unfold choose
    rw [Sem.wp_choose]
    refine ⟨hpos,?_⟩
    rw [Sem.wp_pure]
    revert Γ p hΓ
    generalize hi:(model prog w).w.draws Source.order (s.drawn.get Source.order) % (y::l).length = i
    have hlt:i < (y::l).length:=by rw [← hi]; exact Nat.mod_lt _ (by simp)
    intro _ _ _
    rw [List.getElem?_eq_getElem hlt]
    show wpAny (model prog w) A (drawOrder n ((y::l).eraseIdx i) >>= fun r=>pure ((y::l)[i]::r)) Q E _
    refine wpAny_bind (wpAny_drawOrder n _ _ (by rw [List.length_eraseIdx,if_pos hlt]; wtm_at "om") fun l' d hp=>wpAny_pure ?_)
    exact h _ d ((hp.cons _).trans (eraseIdx_perm hlt))
theorem pyNextS {vs:Array Value} {Q:Option Value→Shared→Prop} (ho:s.heap.get? it = some { cls:=.type "set_iterator", data:=.fields vs })
    (h:wpAny (model prog w) A.in1 (Builtin.«set_iterator.__next__» ⟨[.ref it],[]⟩) (fun fin s'=>∃ v,fin = .done (.ret v)∧Q (some v) s') (fun e s'=>s'.TypeIs e "StopIteration" ∧ Q none s') s):wpAny (model prog w) A (pyNext (.ref it)) Q E s:=by
  have hT:s.TypeIs (.ref it) "set_iterator" := ⟨_,ho,rfl⟩
  unfold pyNext
  refine wpAny_bind (wpAny_attempt (wpAny_callSpecial?_slot (name:=Str.ofString "__next__") hT slot_setit_next (wpAny_call_entry slot_setit_next hT entry_setit_next (wpAny_mono h (fun fin s' h'=>?_) fun e s' h'=>?_) (args_setit_next _))))
  · obtain ⟨v,rfl,hv⟩:=h'
    exact ⟨v,rfl,wpAny_pure hv⟩
  · refine wpAny_bind (wpAny_isInstance (T := "StopIteration") (b:=true) h'.1 isSubtype_stop ?_)
    exact wpAny_pure h'.2
theorem raiseStop {α:Type} {Q:α→Shared→Prop} {E':Value→Shared→Prop} (hh:A.handled = none) (S:Sat C σ s) (h:∀ e s',s'.TypeIs e "StopIteration" → Sat C σ s'→E' e s'):wpAny (model prog w) A (newExc (Value.type "StopIteration") [] >>= fun x=>(raiseNew x:Sem α)) Q E' s:=by
  refine wpAny_bind ?_
  simp only [newExc,newTuple]
  refine wpAny_bind (wpAny_newObj_type ?_ (by size_fits))
  refine wpAny_bind (m:=firstArgMember _ _) (wpAny_of_eq (a:=Value.none) (by first | rfl | (simp only [firstArgMember]; rfl)) ?_)
  refine wpAny_newObj_type ?_ (by size_fits)
  show wpAny _ _ (handled >>= _) _ _ _
  refine wpAny_bind (wpAny_handled ?_)
  rw [hh]
  refine wpAny_bind (wpAny_pure ?_)
  exact wpAny_throw (h _ _ ⟨_,Heap.get?_push_size _ rfl,rfl⟩ ((S.push0 _ s.toks).push0 _ s.toks))
noncomputable def setitO (first:Value) (i:Nat) (a:Addr) (n ep:Nat):Obj:={ cls:=.type "set_iterator", data:=.fields #[first,.int i 0,.ref a,.int n 0,.int ep 0] }
theorem itsText {o:Obj} {es:Array (Int × Value)} {ep:Nat} {tb:SetTable} (hh:A.handled = none) (hd:o.data = .set es ep tb) (hf:tb.fits es.size = true) (ht:w.params.followText "set-order" = true) :
    Its C prog w A it (fun i=>.raw (setitO (rawInt 0) i a es.size ep)) ((pickOrder (w.params.setOrder a ep) es).toList.map fun e=>er e.2) (fun τ=>(a,.raw o)∈τ) where
  next:=by
    intro i τ s Q E hn S h0 h1
    obtain ⟨oi,hoi,hp⟩:=S.get (.head _)
    have hp:oi = _:=hp
    subst hp
    obtain ⟨oa,ho,hp⟩:=S.get (.tail _ hn)
    have hp:oa = _:=hp
    subst hp
    refine pyNextS hoi ?_
    unfold Builtin.«set_iterator.__next__»
    refine wpAny_bind (wpAny_pure ?_)
    refine wpAny_bind (wpAny_fieldsOf hoi rfl ?_)
    show wpAny _ _ (setEntries a >>= _) _ _ s
    refine wpAny_bind (wpAny_setEntries_of ho hd hf ?_)
    rw [if_neg (by simp)]
    show wpAny _ _ (setNext a (0:Int).toNat (i:Int).toNat (ep:Int).toNat >>= _) _ _ s
    rw [Int.toNat_natCast,Int.toNat_natCast]
    refine wpAny_bind ?_
    unfold setNext setsByText
    refine wpAny_bind (wpAny_setState_of ho hd hf (wpAny_bind (wpAny_bind (wpAny_askSetting (wpAny_pure ?_)))))
    rw [show (model prog w).w.params.followText "set-order" = true from ht,if_pos rfl,if_neg (by simp)]
    unfold setWalk setsByText
    refine wpAny_bind (wpAny_bind (wpAny_setState_of ho hd hf (wpAny_bind (wpAny_bind (wpAny_askSetting (wpAny_pure ?_))))))
    rw [show (model prog w).w.params.followText "set-order" = true from ht,if_pos rfl]
    refine wpAny_bind (wpAny_askSetting (wpAny_pure (wpAny_pure ?_)))
    cases hx:(pickOrder (w.params.setOrder a ep) es)[i]? with
    | none =>
      dsimp only [model]
      rw [hx]
      show wpAny _ _ (setField (.ref it) 2 .none >>= fun _=>newExc (.type "StopIteration") [] >>= fun x=>raiseNew x) _ _ s
      refine wpAny_bind (wpAny_setField hoi rfl (by simp) ?_)
      have S':=S.ext (h':=s.heap.update it _) (Heap.SameBut.update s.heap it (Obj.mapFields (·.setIfInBounds 2 .none))).extBut s.toks
      refine raiseStop hh S' fun e s' hT S''=>⟨hT,h0 ?_ _ S''⟩
      rw [List.getElem?_map,Array.getElem?_toList,hx]; rfl
    | some e =>
      dsimp only [model]
      rw [hx]
      show wpAny _ _ (setField (.ref it) 0 (rawInt (0:Nat)) >>= fun _=>setField (.ref it) 1 (rawInt ((i:Int) + 1)) >>= fun _=>ret e.2) _ _ s
      refine wpAny_bind (wpAny_setField_rec hoi (by simp) fun h' hg hs=>?_)
      refine wpAny_bind (wpAny_setField_rec hg (by simp) fun h'' hg' hs'=>?_)
      refine wpAny_pure ⟨_,rfl,h1 (er e.2) e.2 ?_ rfl _ (S.set (.head (p':=.raw (setitO (rawInt 0) (i + 1) a es.size ep))) (hs.trans hs') hg' ?_ s.toks)⟩
      · rw [List.getElem?_map,Array.getElem?_toList,hx]; rfl
      · show _ = _
        unfold setitO
        simp [rawInt]
  self:=by
    intro i τ s Q E S h
    obtain ⟨oi,hoi,hp⟩:=S.get (.head _)
    have hp:oi = _:=hp
    subst hp
    refine wpAny_pyIter_slot (T := "set_iterator") ⟨_,hoi,rfl⟩ slot_setit_iter (wpAny_call_entry slot_setit_iter (T := "set_iterator") ⟨_,hoi,rfl⟩ entry_setit_iter ?_ (by unfold argsOk; kernel_rfl))
    exact wpAny_pure ⟨_,rfl, "set_iterator", _,⟨_,hoi,rfl⟩,slot_setit_next.lookup,h⟩
theorem itsDrawn {o:Obj} {es:Array (Int × Value)} {ep tp:Nat} {tb:SetTable} {l:List Nat} (hh:A.handled = none) (hd:o.data = .set es ep tb) (hf:tb.fits es.size = true) (hl:∀ i∈l,i < es.size) :
    Its C prog w A it (fun i=>.raw (setitO (.ref tp) i a es.size ep)) (l.map fun i=>((es[i]?).map fun e=>er e.2).getD .none)
      (fun τ=>(a,.raw o)∈τ∧(tp,.raw { cls:=.type "tuple", data:=.seq (l.map fun (i:Nat)=>rawInt i).toArray })∈τ) where
  next:=by
    intro i τ s Q E hn S h0 h1
    obtain ⟨oi,hoi,hp⟩:=S.get (.head _)
    have hp:oi = _:=hp
    subst hp
    obtain ⟨oa,ho,hp⟩:=S.get (.tail _ hn.1)
    have hp:oa = _:=hp
    subst hp
    obtain ⟨ot,hot,hp⟩:=S.get (.tail _ hn.2)
    have hp:ot = _:=hp
    subst hp
    refine pyNextS hoi ?_
    unfold Builtin.«set_iterator.__next__»
    refine wpAny_bind (wpAny_pure ?_)
    refine wpAny_bind (wpAny_fieldsOf hoi rfl ?_)
    show wpAny _ _ (setEntries a >>= _) _ _ s
    refine wpAny_bind (wpAny_setEntries_of ho hd hf ?_)
    rw [if_neg (by simp)]
    show wpAny _ _ (seqItems? (.ref tp) >>= _) _ _ s
    refine wpAny_bind (wpAny_seqItems hot rfl ?_)
    dsimp only
    rw [Int.toNat_natCast,List.getElem?_toArray,List.getElem?_map]
    cases hx:l[i]? with
    | none =>
      rw [Option.map_none]
      show wpAny _ _ (setField (.ref it) 0 (rawInt 0) >>= fun _=>setField (.ref it) 2 .none >>= fun _=>newExc (.type "StopIteration") [] >>= fun x=>raiseNew x) _ _ s
      refine wpAny_bind (wpAny_setField_rec hoi (by simp) fun h' hg hs=>?_)
      refine wpAny_bind (wpAny_setField_rec hg (by simp) fun h'' hg' hs'=>?_)
      refine raiseStop hh (S.ext (hs.trans hs').extBut s.toks) fun e s' hT S''=>⟨hT,h0 ?_ _ S''⟩
      rw [List.getElem?_map,hx]; rfl
    | some p =>
      have hp:=hl p (List.mem_of_getElem? hx)
      rw [Option.map_some]
      show wpAny _ _ (setNextDrawn a (p:Int).toNat (ep:Int).toNat >>= fun x=>setField (.ref it) 1 (rawInt ((i:Int) + 1)) >>= fun _=>ret x) _ _ s
      rw [Int.toNat_natCast,Int.toNat_natCast]
      refine wpAny_bind ?_
      unfold setNextDrawn
      refine wpAny_bind (wpAny_setState_of ho hd hf ?_)
      dsimp only
      rw [if_neg (by simp),Array.getElem?_eq_getElem hp]
      refine wpAny_pure ?_
      refine wpAny_bind (wpAny_setField_rec hoi (by simp) fun h' hg hs=>?_)
      refine wpAny_pure ⟨_,rfl,h1 (er es[p].2) es[p].2 ?_ rfl _ (S.set (.head (p':=.raw (setitO (.ref tp) (i + 1) a es.size ep))) hs hg ?_ s.toks)⟩
      · rw [List.getElem?_map,hx,Option.map_some,Array.getElem?_eq_getElem hp]; rfl
      · show _ = _
        unfold setitO
        simp [rawInt]
  self:=by
    intro i τ s Q E S h
    obtain ⟨oi,hoi,hp⟩:=S.get (.head _)
    have hp:oi = _:=hp
    subst hp
    refine wpAny_pyIter_slot (T := "set_iterator") ⟨_,hoi,rfl⟩ slot_setit_iter (wpAny_call_entry slot_setit_iter (T := "set_iterator") ⟨_,hoi,rfl⟩ entry_setit_iter ?_ (by unfold argsOk; kernel_rfl))
    exact wpAny_pure ⟨_,rfl, "set_iterator", _,⟨_,hoi,rfl⟩,slot_setit_next.lookup,h⟩
theorem arr_one {α:Type} {a:Array α} (h:a.size = 1):∃ x,a = #[x]:=by
  obtain ⟨l⟩:=a
  cases l with
  | nil=>cases h
  | cons x r=>cases r with
    | nil=>exact ⟨x,rfl⟩
    | cons _ _=>simp at h
theorem itsOne {o:Obj} {es:Array (Int × Value)} {ep:Nat} {tb:SetTable} (hh:A.handled = none) (hd:o.data = .set es ep tb) (hf:tb.fits es.size = true) (ht:w.params.followText "set-order" = false) (hled:tb.led = true) (h1:es.size≤1) :
    Its C prog w A it (fun i=>.raw (setitO (rawInt (if i = 0 then 0 else (tb.place.getD 0 0 + 1:Nat))) i a es.size ep)) (es.toList.map fun e=>er e.2) (fun τ=>(a,.raw o)∈τ) where
  next:=by
    intro i τ s Q E hn S h0 h2
    obtain ⟨oi,hoi,hp⟩:=S.get (.head _)
    have hp:oi = _:=hp
    subst hp
    obtain ⟨oa,ho,hp⟩:=S.get (.tail _ hn)
    have hp:oa = _:=hp
    subst hp
    have hpl:tb.place.size = es.size:=by
      unfold SetTable.fits at hf
      rw [Bool.and_eq_true,beq_iff_eq] at hf
      exact hf.1
    refine pyNextS hoi ?_
    unfold Builtin.«set_iterator.__next__»
    refine wpAny_bind (wpAny_pure ?_)
    refine wpAny_bind (wpAny_fieldsOf hoi rfl ?_)
    show wpAny _ _ (setEntries a >>= _) _ _ s
    refine wpAny_bind (wpAny_setEntries_of ho hd hf ?_)
    rw [if_neg (by simp)]
    generalize hsl:(if i = 0 then (0:Int) else (tb.place.getD 0 0 + 1:Nat)) = sl at hoi
    show wpAny _ _ (setNext a sl.toNat (i:Int).toNat (ep:Int).toNat >>= _) _ _ s
    refine wpAny_bind ?_
    unfold setNext setsByText
    refine wpAny_bind (wpAny_setState_of ho hd hf (wpAny_bind (wpAny_bind (wpAny_askSetting (wpAny_pure ?_)))))
    rw [show (model prog w).w.params.followText "set-order" = false from ht,if_neg Bool.false_ne_true]
    show wpAny _ _ (if (!tb.plain && decide (es.size > 1)) = true then _ else _) _ _ s
    rw [if_neg (by rw [decide_eq_false (by wtm_at "om")]; simp)]
    refine wpAny_bind (m:=ite _ _ _) ?_
    show wpAny _ _ (if (!tb.led && !es.isEmpty) = true then _ else _) _ _ s
    rw [if_neg (by rw [hled]; simp)]
    refine wpAny_pure (wpAny_pure ?_)
    by_cases hz:es.size = 1∧i = 0
    · obtain ⟨hz,rfl⟩:=hz
      rw [if_pos rfl] at hsl
      subst hsl
      obtain ⟨j,hj⟩:∃ j,tb.place = #[j]:=arr_one (hpl.trans hz)
      obtain ⟨e,he⟩:∃ e,es = #[e]:=arr_one hz
      have hb:SetTable.below tb.place (0:Int).toNat = 0:=by
        rw [hj]
        exact below0 j
      rw [hb,hj,he]
      show wpAny _ _ (setField (.ref it) 0 (rawInt ((j + 1:Nat):Int)) >>= fun _=>setField (.ref it) 1 (rawInt (((0:Nat):Int) + 1)) >>= fun _=>ret e.2) _ _ s
      refine wpAny_bind (wpAny_setField_rec hoi (by simp) fun h' hg hs=>?_)
      refine wpAny_bind (wpAny_setField_rec hg (by simp) fun h'' hg' hs'=>?_)
      refine wpAny_pure ⟨_,rfl,h2 (er e.2) e.2 (by rw [he]; rfl) rfl _ (S.set (.head (p':=.raw (setitO (rawInt (if (0 + 1:Nat) = 0 then 0 else (tb.place.getD 0 0 + 1:Nat))) (0 + 1) a es.size ep))) (hs.trans hs') hg' ?_ s.toks)⟩
      show _ = _
      unfold setitO
      rw [hj]
      simp [rawInt]
    · have hplace : tb.place[SetTable.below tb.place sl.toNat]? = none := by
          rw [Array.getElem?_eq_none_iff]
          by_cases he:es.size = 0
          · rw [hpl,he]; exact Nat.zero_le _
          · have hz1:es.size = 1:=by wtm_at "om"
            have hi:i ≠ 0:=fun e=>hz ⟨hz1,e⟩
            rw [if_neg hi] at hsl
            subst hsl
            obtain ⟨j,hj⟩:∃ j,tb.place = #[j]:=arr_one (hpl.trans hz1)
            rw [hj]
            have e1:((((#[j]:Array Nat).getD 0 0 + 1:Nat):Int)).toNat = j + 1:=by simp
            rw [e1]
            exact Nat.le_of_eq (below1 j).symm
      rw [hplace]
      have K:wpAny (model prog w) A.in1 (setField (.ref it) 2 .none >>= fun _=>newExc (.type "StopIteration") [] >>= fun x=>(raiseNew x:Sem PySem.Fin)) (fun fin s'=>∃ v,fin = PySem.Fin.done (.ret v)∧Q (some v) s') (fun e s'=>s'.TypeIs e "StopIteration" ∧ Q none s') s:=by
        refine wpAny_bind (wpAny_setField_rec hoi (by simp) fun h' hg hs=>?_)
        refine raiseStop hh (S.ext hs.extBut s.toks) fun e s' hT S''=>⟨hT,h0 ?_ _ S''⟩
        rw [List.getElem?_eq_none_iff,List.length_map,Array.length_toList]
        wtm_at "om"
      cases es[SetTable.below tb.place sl.toNat]? <;> exact K
  self:=by
    intro i τ s Q E S h
    obtain ⟨oi,hoi,hp⟩:=S.get (.head _)
    have hp:oi = _:=hp
    subst hp
    refine wpAny_pyIter_slot (T := "set_iterator") ⟨_,hoi,rfl⟩ slot_setit_iter (wpAny_call_entry slot_setit_iter (T := "set_iterator") ⟨_,hoi,rfl⟩ entry_setit_iter ?_ (by unfold argsOk; kernel_rfl))
    exact wpAny_pure ⟨_,rfl, "set_iterator", _,⟨_,hoi,rfl⟩,slot_setit_next.lookup,h⟩
end
section
variable {prog:Program} {w:World} {A:Around} {E:Value→Shared→Prop} {C:Cx} {σ σ' σ'' τ:Led} {s:Shared} {a it D:Addr} {xs:List Str} {x:Str} {t:Tok}
theorem iterP {Q:Value→Shared→Prop} (S:Sat C σ s) (ha:(a,sps prog w xs)∈σ) (hz:xs.length < 3000)
    (h:∀ ys it po need σ₁ extra o s',ys.Perm xs→(∀ A:Around,A.handled = none→Its C prog w A it po (txts ys) need)→Upd a (sps prog w xs) (.raw o) σ σ₁→(sps prog w xs).Of o→(∀ τ,(∀ q∈extra,q∈τ)→(a,.raw o)∈τ→need τ)→(∀ q τ,need τ→need (q::τ)) →
      Sat C ((it,po 0)::(extra ++ σ₁)) s'→Q (.ref it) s') :
    wpAny (model prog w) A (pyIter (.ref a)) Q E s:=by
  obtain ⟨o,ho,hsp⟩:=S.get ha
  obtain ⟨hex,es,ep,tb,hd,hel,hpm,hnd,hf,hled,hpl,_,_⟩:=id hsp
  have hn:es.size = xs.length:=by rw [← hpm.length_eq,List.length_map,Array.length_toList]
  have hT:s.TypeIs (.ref a) "set" := ⟨o,ho,hex.1⟩
  obtain ⟨σ₁,U⟩:=Upd.ex (p':=.raw o) ha
  have S₁:=S.pin U ho
  have back:∀ s'',Sat C σ₁ s''→Sat C σ s'':=fun s'' S''=>S''.unpin U hsp
  have ha₁:=U.back.mem
  have txt:∀ l:List (Int × Value),(∀ e∈l,e∈es.toList)→(l.map fun e=>er e.2) = txts (l.map fun e=>txtOf e.2):=fun l hl=>by
    show _ = List.map _ (List.map _ l)
    rw [List.map_map]
    refine List.map_congr_left fun e he=>?_
    obtain ⟨t,e1,_⟩:=elem_txt hel (hl e he)
    show er e.2 = Value.str (txtOf e.2) 0
    rw [e1]; rfl
  refine wpAny_pyIter_slot hT F.slot_set_iter (wpAny_call_entry F.slot_set_iter hT entry_set_iter ?_ (F.args_set_iter_1 _))
  have fin:∀ (first:Value) (s₁:Shared) (po:Nat→PO) (P:Shared→Prop),s₁.heap.get? a = some o→(P { s₁ with heap:=s₁.heap.push (setitO first 0 a es.size ep) }→Q (.ref s₁.heap.objs.size) { s₁ with heap:=s₁.heap.push (setitO first 0 a es.size ep) })→P { s₁ with heap:=s₁.heap.push (setitO first 0 a es.size ep) } →
      wpAny (model prog w) A.in1 (setEpoch a >>= fun e=>newFields "set_iterator" [first,rawInt 0,.ref a,rawInt es.size,rawInt e] >>= fun v=>ret v) (fun fin s'=>∃ v,fin = PySem.Fin.done (.ret v)∧∃ T' r,s'.TypeIs v T'∧typeLookup (.type T') "__next__" = pure (some r)∧Q v s') E s₁:=by
    intro first s₁ po P ho₁ hP h₀
    refine wpAny_bind (wpAny_setEpoch_of ho₁ hd hf ?_)
    unfold newFields
    refine wpAny_bind (wpAny_newObj_type ?_)
    exact wpAny_pure ⟨_,rfl, "set_iterator", _,⟨_,Heap.get?_push_size _ rfl,rfl⟩,slot_setit_next.lookup,hP h₀⟩
  unfold Builtin.«frozenset.__iter__»
  refine wpAny_bind (m:=Builtin.Frozenset.slot0 _ _) (wpAny_pure ?_)
  refine wpAny_bind (m:=Builtin.Frozenset.sizeOf a) ?_
  unfold Builtin.Frozenset.sizeOf
  refine wpAny_bind (wpAny_setEntries_of ho hd hf (wpAny_pure ?_))
  refine wpAny_bind (m:=setDrawn a) ?_
  unfold setDrawn setsByText
  refine wpAny_bind (wpAny_setState_of ho hd hf (wpAny_bind (wpAny_bind (wpAny_askSetting (wpAny_pure ?_)))))
  refine wpAny_pure ?_
  show wpAny _ _ (if (!w.params.followText "set-order" && (!tb.plain && decide (es.size > 1))) = true then (drawOrder es.size (List.range es.size) >>= fun l=>newTuple (l.map fun (i:Nat)=>rawInt i) >>= fun first=>setEpoch a >>= fun e=>newFields "set_iterator" [first,rawInt 0,.ref a,rawInt es.size,rawInt e] >>= fun v=>ret v)
    else (pure (rawInt 0) >>= fun first=>setEpoch a >>= fun e=>newFields "set_iterator" [first,rawInt 0,.ref a,rawInt es.size,rawInt e] >>= fun v=>ret v)) _ _ s
  cases hbt:w.params.followText "set-order" with
  | true =>
    rw [if_neg (by simp)]
    refine wpAny_bind (wpAny_pure (fin (rawInt 0) s (fun _=>.cel none) (fun s'=>Sat C ((s.heap.objs.size,.raw (setitO (rawInt 0) 0 a es.size ep))::σ₁) s') ho (fun S'=>?_) (S₁.push (p:=.raw (setitO (rawInt 0) 0 a es.size ep)) (o:=setitO (rawInt 0) 0 a es.size ep) rfl rfl s.toks)))
    have hpo:=pickOrder_perm (w.params.setOrder a ep) es
    refine h ((pickOrder (w.params.setOrder a ep) es).toList.map fun e=>txtOf e.2) _ (fun i=>.raw (setitO (rawInt 0) i a es.size ep)) (fun τ=>(a,.raw o)∈τ) σ₁ [] o _ ((hpo.map _).trans hpm) (fun A hh=>?_) U hsp (fun τ _ hm=>hm) (fun q τ=>List.mem_cons_of_mem _) S'
    rw [← txt _ fun e he=>hpo.mem_iff.mp he]
    exact itsText hh hd hf hbt
  | false =>
    have hled':tb.led = true:=by rw [hled,hbt]; rfl
    by_cases h1:es.size≤1
    · rw [if_neg (by rw [decide_eq_false (by wtm_at "om")]; simp)]
      refine wpAny_bind (wpAny_pure (fin (rawInt 0) s (fun _=>.cel none) (fun s'=>Sat C ((s.heap.objs.size,.raw (setitO (rawInt 0) 0 a es.size ep))::σ₁) s') ho (fun S'=>?_) (S₁.push (p:=.raw (setitO (rawInt 0) 0 a es.size ep)) (o:=setitO (rawInt 0) 0 a es.size ep) rfl rfl s.toks)))
      refine h (es.toList.map fun e=>txtOf e.2) _ (fun i=>.raw (setitO (rawInt (if i = 0 then 0 else (tb.place.getD 0 0 + 1:Nat))) i a es.size ep)) (fun τ=>(a,.raw o)∈τ) σ₁ [] o _ hpm (fun A hh=>?_) U hsp (fun τ _ hm=>hm) (fun q τ=>List.mem_cons_of_mem _) S'
      rw [← txt _ fun e he=>he]
      exact itsOne hh hd hf hbt hled' h1
    · have hp:tb.plain = false:=by cases hp:tb.plain <;> first | rfl | exact absurd (hpl hp) (by wtm_at "om")
      rw [if_pos (by rw [hp,decide_eq_true (by wtm_at "om")]; rfl)]
      refine wpAny_bind (wpAny_drawOrder _ _ _ (by simp) fun l d hl=>?_)
      refine wpAny_bind (wpAny_newTuple ?_ (by rw [List.length_map,hl.length_eq,List.length_range,hn,sizeLine_eq]; wtm_at "om"))
      have S₂:=((S₁.drawn d).push (p:=.raw { cls:=.type "tuple", data:=.seq (l.map fun (i:Nat)=>rawInt i).toArray }) rfl rfl s.toks)
      refine fin (.ref s.heap.objs.size) _ (fun _=>.cel none) (fun s'=>Sat C (((s.heap.push { cls:=.type "tuple", data:=.seq (l.map fun (i:Nat)=>rawInt i).toArray }).objs.size,.raw (setitO (.ref s.heap.objs.size) 0 a es.size ep))::(s.heap.objs.size,.raw { cls:=.type "tuple", data:=.seq (l.map fun (i:Nat)=>rawInt i).toArray })::σ₁) s') (Heap.get?_push_of_some _ ho) (fun S'=>?_) (S₂.push (p:=.raw (setitO (.ref s.heap.objs.size) 0 a es.size ep)) (o:=setitO (.ref s.heap.objs.size) 0 a es.size ep) rfl rfl s.toks)
      have hlt:∀ i∈l,i < es.size:=fun i hi=>List.mem_range.mp (hl.mem_iff.mp hi)
      have hpy:(l.filterMap fun i=>es[i]?).Perm es.toList:=(hl.filterMap _).trans (by rw [filterMap_getElem?_range])
      have hfm:(l.map fun i=>((es[i]?).map fun e=>er e.2).getD .none) = ((l.filterMap fun i=>es[i]?).map fun e=>er e.2):=by
        clear hl hpy S₂ S'
        induction l with
        | nil=>rfl
        | cons i r ih =>
          have hi:=hlt i (.head _)
          rw [List.map_cons,List.filterMap_cons,Array.getElem?_eq_getElem hi,ih fun j hj=>hlt j (.tail _ hj)]
          rfl
      refine h ((l.filterMap fun i=>es[i]?).map fun e=>txtOf e.2) _ (fun i=>.raw (setitO (.ref s.heap.objs.size) i a es.size ep)) (fun τ=>(a,PO.raw o)∈τ∧(s.heap.objs.size,PO.raw { cls:=.type "tuple", data:=.seq (l.map fun (i:Nat)=>rawInt i).toArray })∈τ) σ₁ [(s.heap.objs.size,.raw { cls:=.type "tuple", data:=.seq (l.map fun (i:Nat)=>rawInt i).toArray })] o _ ((hpy.map _).trans hpm) (fun A hh=>?_) U hsp (fun τ hx hm=>⟨hm,hx _ (.head _)⟩) (fun q τ hn=>⟨List.mem_cons_of_mem _ hn.1,List.mem_cons_of_mem _ hn.2⟩) S'
      rw [← txt _ fun e he=>hpy.mem_iff.mp he,← hfm]
      exact itsDrawn hh hd hf hlt
theorem extLoop {po:Nat→PO} {zs:List Value} {need:Led→Prop} {res:Value} {R:Result→Shared→Prop} (I:Its C prog w A.in1 it po zs need) (hneed:∀ q τ,need τ→need (q::τ)) (hz:zs.length≤100000) :
    ∀ k i acc s,zs.length - i = k→i≤zs.length→acc.length = i→need τ→Sat C ((it,po i)::(D,.lst acc)::τ) s→(∀ s',Sat C ((D,.lst (acc ++ zs.drop i))::τ) s'→R (.ok (.ret res)) s') →
      codeAny (model prog w) A (.builtin "list.extend.loop" ⟨[.ref D,.ref it,res],[]⟩) R s:=by
  intro k
  induction k with
  | zero =>
    intro i acc s hk hi hacc hn S h
    refine codeAny_builtin PySem.F.entry_extend_loop ?_
    rw [Around.under_plainId PySem.F.plain_extend_loop _]
    show wpAny _ A.in1 (pyNext (.ref it) >>= _) _ _ s
    have hx:zs[i]? = none:=by rw [List.getElem?_eq_none_iff]; wtm_at "om"
    refine wpAny_bind (I.next (hneed _ _ hn) S (fun _ s' S'=>?_) fun p v hp=>?_)
    · refine wpAny_pure (h s' ?_)
      rw [List.drop_eq_nil_iff.mpr (by wtm_at "om"),List.append_nil]; exact S'
    · rw [hx] at hp; cases hp
  | succ k ih =>
    intro i acc s hk hi hacc hn S h
    refine codeAny_builtin PySem.F.entry_extend_loop ?_
    rw [Around.under_plainId PySem.F.plain_extend_loop _]
    show wpAny _ A.in1 (pyNext (.ref it) >>= _) _ _ s
    have hlt:i < zs.length:=by wtm_at "om"
    refine wpAny_bind (I.next (hneed _ _ hn) S (fun hx=>?_) fun p v hp hv s' S'=>?_)
    · rw [List.getElem?_eq_none_iff] at hx; wtm_at "om"
    dsimp only
    obtain ⟨its,n,ho,he⟩:=S'.lst (.tail _ (.head _))
    have hl:=lst_len he
    show wpAny _ _ (updateSeq D (·.push v) >>= fun _=>again (.builtin "list.extend.loop" ⟨[.ref D,.ref it,res],[]⟩)) _ _ s'
    refine wpAny_bind (wpAny_updateSeq (hz:=by rw [sizeLine_eq]; wtm_at "om") (_hz':=by rw [Array.size_push,sizeLine_eq]; wtm_at "om") ho rfl ?_)
    have S₂:=S'.upd (.tail (.head (p':=.lst (acc ++ [er v])))) (f:=Obj.mapSeq (·.push v)) ho (by
      obtain ⟨c,hc⟩:=mapSeq_at (its:=its) (n:=n) (·.push v)
      rw [hc]; exact lst_of (by rw [Array.toList_push,List.map_append,he]; rfl)) rfl s'.toks
    refine wpAny_pure ⟨plainId_quiet PySem.F.plain_extend_loop _,ih (i + 1) (acc ++ [er v]) _ (by wtm_at "om") hlt (by rw [List.length_append,hacc]; rfl) hn S₂ fun s'' S''=>h s'' ?_⟩
    have e:zs.drop i = er v::zs.drop (i + 1):=by
      rw [List.drop_eq_getElem_cons hlt,(List.getElem?_eq_some_iff.mp hp).2,hv]
    rw [e]
    rw [List.append_assoc] at S''
    exact S''
theorem hint_set (hT:s.TypeIs (.ref a) "set") {Q:Bool→Shared→Prop} (h:Q false s):wpAny (model prog w) A (Builtin.List.listLengthHint (.ref a)) Q E s:=by
  unfold Builtin.List.listLengthHint
  refine wpAny_bind (wpAny_specialOf hT slot_set_len' ?_)
  generalize hid:("set.__len__" : String) = id0
  wp_delta
  rw [show splitId id0 = some ("set", "__len__") from by subst hid; decide +kernel]
  subst hid
  refine wpAny_bind (wpAny_isInstance (T := "set") (b:=true) hT (by rw [isSubtype_type]; kernel_rfl) ?_)
  refine wpAny_ite_split (fun hab=>absurd hab (by decide)) (fun _=>?_)
  refine wpAny_ite_split (fun _=>?_) (fun hab=>absurd (by decide +kernel) hab)
  refine wpAny_bind (wpAny_typeOf hT ?_)
  exact wpAny_pure h
theorem collectP {Q:List Value→Shared→Prop} (S:Sat C σ s) (ha:(a,sps prog w xs)∈σ) (hz:xs.length < 3000) (hh:A.handled = none)
    (h:∀ ys vs s',ys.Perm xs→vs.map er = txts ys→Sat C σ s'→Q vs s'):wpAny (model prog w) A (collect (.ref a)) Q E s:=by
  unfold collect
  refine wpAny_bind (wpAny_runValue (codeAny_builtin entry_proto_collect' ?_))
  rw [Around.under_plainId PySem.F.plain_proto_collect _]
  show wpAny _ A.in1 (newList [] >>= fun l=>again (.builtin "list.__iadd__" ⟨[l,.ref a],[]⟩)) _ _ s
  refine wpAny_bind (wpAny_newObj_type ?_)
  have S₀:=S.push (p:=.lst []) (o:={ cls:=.type "list", data:=.seq ([]:List Value).toArray }) (lst_of rfl) rfl s.toks
  generalize hD:s.heap.objs.size = D at S₀
  generalize hs₀:({ s with heap:=s.heap.push { cls:=.type "list", data:=.seq ([]:List Value).toArray } }:Shared) = s₀ at S₀ ⊢
  refine wpAny_pure ⟨plainId_quiet PySem.F.plain_list_iadd _,codeAny_builtin entry_list_iadd' ?_⟩
  rw [Around.under_plainId PySem.F.plain_list_iadd _]
  show wpAny _ A.in1 (Builtin.List.listExtendWith (.ref D) (.ref a) (.ref D)) _ _ s₀
  unfold Builtin.List.listExtendWith
  obtain ⟨o,ho,hex,_⟩:=S₀.get (.tail _ ha)
  have hT:s₀.TypeIs (.ref a) "set" := ⟨o,ho,hex.1⟩
  have hDa:D ≠ a:=fun e=>by
    have nd:=S₀.nd
    rw [List.map_cons,List.nodup_cons] at nd
    exact nd.1 (e ▸ List.mem_map_of_mem (f:=(·.1)) ha)
  refine wpAny_bind (wpAny_typeOf hT ?_)
  have h1:Builtin.List.listSameRef (.ref D) (.ref a) = false:=by simp [Builtin.List.listSameRef,hDa]
  have h2:(Value.type "set" == Value.type "list") = false:=by decide
  have h3:(Value.type "set" == Value.type "tuple") = false:=by decide
  rw [h1,h2,h3,if_neg (show ¬ (false || false || false) = true from Bool.false_ne_true)]
  refine wpAny_bind (iterP S₀ (.tail _ ha) hz fun ys it po need σ₁ extra o' s₁ hp I U ho' hnd hneed S₁=>?_)
  cases U with
  | tail U =>
    rename_i σ₂
    have hoa:(a,PO.raw o')∈(it,po 0)::(extra ++ (D,PO.lst [])::σ₂):=.tail _ (List.mem_append_right _ (.tail _ U.back.mem))
    have hT₁:s₁.TypeIs (.ref a) "set" := by
      obtain ⟨o2,ho2,e⟩:=S₁.get hoa
      have e:o2 = o':=e
      subst e
      exact ⟨o2,ho2,ho'.1.1⟩
    have S₂:Sat C ((it,po 0)::(D,.lst [])::(extra ++ σ₂)) s₁:=S₁.perm (List.Perm.cons _ List.perm_middle)
    have loop:∀ s₃,Sat C ((it,po 0)::(D,.lst [])::(extra ++ σ₂)) s₃→codeAny (model prog w) A (.builtin "list.extend.loop" ⟨[.ref D,.ref it,.ref D],[]⟩) (fun r s'=>match r with
        | .ok (.ret v)=>wpAny (model prog w) A (match v with
          | .ref a=>(do match (← load a).data with | .seq xs _=>pure xs.toList | _=>unsupported "internal:collect")
          | _=>unsupported "internal:collect") Q E s'
        | _=>False) s₃:=fun s₃ S₃=>by
      refine extLoop (I A.in1 hh) hneed (by rw [List.length_map,hp.length_eq]; wtm_at "om") _ 0 [] s₃ rfl (Nat.zero_le _) rfl (hnd _ (fun q hq=>List.mem_append_left _ hq) (List.mem_append_right _ U.back.mem)) S₃ fun s₄ S₄=>?_
      obtain ⟨its,n,ho4,he⟩:=S₄.lst (.head _)
      show wpAny _ _ (load D >>= _) _ _ s₄
      refine wpAny_bind (wpAny_load ho4 ?_)
      refine wpAny_pure (h ys its.toList s₄ hp he ?_)
      have S₅:Sat C σ₂ s₄:=S₄.sub ((List.sublist_append_right _ _).trans (List.sublist_cons_self _ _))
      exact S₅.unpin U ho'
    refine wpAny_bind (wpAny_holding (hint_set hT₁ ?_))
    refine wpAny_ite_split (fun _=>?_) (fun _=>wpAny_pure ⟨plainId_quiet PySem.F.plain_extend_loop _,?_⟩)
    · refine wpAny_bind (wpAny_rule ?_)
      refine wpAny_bind ?_
      obtain ⟨its,n,hoD,he⟩:=S₂.lst (.tail _ (.head _))
      have hits:its = #[]:=by
        have:=lst_len he
        exact Array.eq_empty_of_size_eq_zero this
      subst hits
      show wpAny _ _ (updateSeq D (·.push .none) >>= fun _=>updateSeq D (·.pop)) _ _ _
      refine wpAny_bind (wpAny_updateSeq hoD rfl ?_)
      have hS₂:=Heap.get?_update_self (Obj.mapSeq (·.push Value.none)) hoD rfl
      refine wpAny_updateSeq hS₂ rfl ?_
      have hS₃:=Heap.get?_update_self (Obj.mapSeq (·.pop)) hS₂ rfl
      refine wpAny_pure ⟨plainId_quiet PySem.F.plain_extend_loop _,?_⟩
      have S₃:=S₂.set (.tail (.head (p':=.lst []))) ((Heap.SameBut.update _ D _).trans (Heap.SameBut.update _ D _)) hS₃ ⟨_,_,rfl,rfl⟩ s₁.toks
      exact codeAny_mono (loop _ S₃) fun r s' hr=>by
        cases r with
        | error e=>exact hr.elim
        | ok f=>cases f <;> exact hr
    · exact codeAny_mono (loop _ S₂) fun r s' hr=>by
        cases r with
        | error e=>exact hr.elim
        | ok f=>cases f <;> exact hr
end
section
variable {prog:Program} {w:World} {A:Around} {E:Value→Led→Prop} {C:Cx} {σ σ' σ'' τ:Led} {s:Shared} {a it D q:Addr} {xs:List Str} {x:Str} {t:Tok}
end
theorem TriplesOk.three {ps:List Value} {a b:Int} {c:Value} (h:TriplesOk ps):TriplesOk (ps ++ [rawInt a,rawInt b,c]):=TriplesOk_snoc a b c ps h
noncomputable def Cx.withLam (C:Cx) (q:LamTab) (hq:q∈C.lams) (p:Addr × Obj):Cx :=
  { C with
    lams:={ q with own:=some p }::C.lams
    lamlow:=fun r hr=>by
      rcases List.mem_cons.mp hr with rfl | hr
      · exact C.lamlow q hq
      · exact C.lamlow r hr
    lamtab:=fun r hr=>by
      rcases List.mem_cons.mp hr with rfl | hr
      · exact C.lamtab q hq
      · exact C.lamtab r hr
    lamsame:=fun r hr r' hr' e=>by
      rcases List.mem_cons.mp hr with rfl | hr <;> rcases List.mem_cons.mp hr' with rfl | hr'
      · exact ⟨rfl,rfl⟩
      · exact C.lamsame q hq r' hr' e
      · exact C.lamsame r hr q hq e
      · exact C.lamsame r hr r' hr' e }
section
variable {prog:Program} {w:World} {A:Around} {E:Value→Shared→Prop} {C:Cx} {σ σ' σ'' τ:Led} {s:Shared} {a it D f:Addr} {q:LamTab} {p:Addr × Obj}
theorem Sat.lams (S:Sat C σ s) (hq:q∈C.lams) (h1:p.1 ∉ σ.map (·.1)) (h2:C.h₀.objs.size≤p.1) (h3:s.heap.get? p.1 = some p.2):Sat (C.withLam q hq p) σ s :=
  ⟨S.old,S.stat,S.led,S.low,S.nd,S.os,S.gens,S.gl,S.tk,fun r hr=>by
    rcases List.mem_cons.mp hr with rfl | hr
    · exact ⟨(S.lam q hq).tab,fun p' hp'=>by cases hp'; exact ⟨h1,h2,h3⟩⟩
    · exact S.lam r hr⟩
theorem Sat.noLam {hq:q∈C.lams} (S:Sat (C.withLam q hq p) σ s):Sat C σ s :=
  ⟨S.old,S.stat,S.led,S.low,S.nd,S.os,S.gens,S.gl,S.tk,fun r hr=>S.lam r (.tail _ hr)⟩
theorem Sat.table (S:Sat C σ s) (hq:q∈C.lams) {ps:Array Value} {h':Heap} {c':Addr} {tk:Nat} (hP:s.heap.get? q.P = some { cls:=.none,data:=.fields ps }) (ht:TriplesOk ps.toList) (hn:codeAmong q.pos ps.toList = none) (hx:Heap.ExtBut q.P s.heap h') (hge:s.heap.objs.size≤c')
    (hrec:h'.CodeRec (.ref c') q.qual) (hP':h'.get? q.P = some (tabObj (ps ++ #[rawInt q.pos.line,rawInt q.pos.col,.ref c']))) (htk:0 < tk):Sat C σ { s with heap:=h',toks:=tk }:=by
  obtain ⟨hPs,c,ps₀,hT⟩:=C.lamtab q hq
  have hlow:=C.lamlow q hq
  have hne:∀ b o,C.h₀.objs.size≤b→s.heap.get? b = some o→h'.get? b = some o:=fun b o hb e=>hx b o (fun e'=>Nat.lt_irrefl _ (Nat.lt_of_lt_of_le hlow (e' ▸ hb))) e
  obtain ⟨⟨oc,vc,hoc,hcc,hdc,h11⟩,hP0⟩:=id hT
  have hcP:c ≠ q.P:=fun e=>by
    rw [e,hP0] at hoc; cases hoc; cases hcc
  have hc1:s.heap.get? c = some oc:=S.old.get_of_cls hoc (by rw [hcc]; nofun)
  have t1:s.heap.TableAt c q.P ps:=⟨⟨oc,vc,hc1,hcc,hdc,h11⟩,hP⟩
  have t2:h'.TableAt c q.P (ps ++ #[rawInt q.pos.line,rawInt q.pos.col,.ref c']):=⟨⟨oc,vc,hx _ _ hcP hc1,hcc,hdc,h11⟩,hP'⟩
  refine ⟨S.old.step_table hT t1 t2 hx hPs,?_,fun y hy=>?_,S.low,S.nd,S.os,S.gens,S.gl,htk,fun r hr=>?_⟩
  · obtain ⟨mc,⟨oc,es,ep,hc,_⟩,_⟩:=C.lim
    exact (hx _ _ hPs.symm (S.stat.trans hc)).trans hc.symm
  · obtain ⟨o,ho,hp⟩:=S.led y hy
    exact ⟨o,hne _ _ (S.low y hy) ho,hp⟩
  · obtain ⟨⟨ps2,h1,h2,h3⟩,h4⟩:=S.lam r hr
    refine ⟨?_,fun p' hp'=>?_⟩
    · by_cases e:r.P = q.P
      · obtain ⟨e1,e2⟩:=C.lamsame q hq r hr e
        rw [e,hP] at h1
        cases h1
        refine ⟨_,by rw [e]; exact hP',?_,fun cv hcv=>?_⟩
        · rw [Array.toList_append]; exact TriplesOk.three ht
        · rw [Array.toList_append,e1,codeAmong_snoc _ ht hn] at hcv
          cases hcv
          obtain ⟨c2,o2,vs,t,e3,hc2,hd2,hv2⟩:=hrec
          cases e3
          refine ⟨c',o2,vs,t,rfl,fun hm=>?_,Nat.le_trans S.size hge,hc2,hd2,by rw [e2]; exact hv2⟩
          obtain ⟨y,hy,e4⟩:=List.mem_map.mp hm
          have:=S.lt (p:=y.2) hy
          rw [e4] at this
          exact Nat.lt_irrefl _ (Nat.lt_of_lt_of_le this hge)
      · refine ⟨ps2,hx _ _ e h1,h2,fun cv hcv=>?_⟩
        obtain ⟨c2,o2,vs,t,e3,hk,hlo,hc2,r2⟩:=h3 cv hcv
        exact ⟨c2,o2,vs,t,e3,hk,hlo,hne _ _ hlo hc2,r2⟩
    · obtain ⟨k1,k2,k3⟩:=h4 p' hp'
      exact ⟨k1,k2,hne _ _ k2 k3⟩
noncomputable def LamO (qual:Str) (params:Arguments) (body:Expr) (scope:Scope) (clos:List (Str × Addr)) (c':Addr) (o:Obj):Prop:=∃ pm ctv,o = kla_obj "<lambda>" qual params body scope clos pm c' ctv
theorem lamMake {Q:Value→Shared→Prop} {params:Arguments} {body:Expr} {scope:Scope} {pos:Pos} {env:Env} {clos:List (Str × Addr)} {c:Addr} (S:Sat C σ s) (hq:q∈C.lams) (hdef:defaultsOf params env = ([],[])) (hcl:closureFor scope env = pure clos)
    (hge0:env.globals = mainGlobals) (hcode:env.code = .ref c) (hpos:q.pos = pos) (hqual:q.qual = env.qual ++ "<lambda>") (hHd:CodeHd s.heap c q.P)
    (h:∀ f c' o vs t s',o.data = .fields vs→vs[1]? = some (.str (env.qual ++ "<lambda>") t)→Sat (C.withLam q hq (c',o)) ((f,.prd (LamO (env.qual ++ "<lambda>") params body scope clos c'))::σ) s'→Q (.ref f) s') :
    wpAny (model prog w) A (eval (.Lambda params body scope pos) env) Q E s:=by
  obtain ⟨bm,ob,b1,b2,b3,b4,b5,b6⟩:=C.bmain
  obtain ⟨hPs,_,_,hTab⟩:=C.lamtab q hq
  have hlow:=C.lamlow q hq
  have hbg:∀ o,C.h₀.get? mainGlobals = some o→s.heap.get? mainGlobals = some o:=fun o ho=>by
    obtain ⟨o',es,ep,e,hd,_⟩:=C.gns
    rw [ho] at e; cases e
    rcases S.old.old _ _ ho with x | ⟨_,_,vs,more,hv,_⟩ | ⟨e,_⟩
    · exact x
    · rw [hv] at hd; cases hd
    · cases e
  have hg:s.heap.Ns mainGlobals C.mg:=by
    obtain ⟨o,es,ep,e,r⟩:=C.gns
    exact ⟨o,es,ep,hbg _ e,r⟩
  have hgP:mainGlobals ≠ q.P:=fun e=>by
    obtain ⟨o,es,ep,e',hd,_⟩:=C.gns
    rw [e,hTab.2] at e'; cases e'; cases hd
  have hbP:bm ≠ q.P:=fun e=>by rw [e,hTab.2] at b3; cases b3; cases b4
  have hbG:bm ≠ mainGlobals:=fun e=>by
    obtain ⟨o,es,ep,e',hd,_⟩:=C.gns
    rw [e,e'] at b3; cases b3; rw [hd] at b6; cases b6
  have hbo:s.heap.get? bm = some ob:=S.old.get_of_cls b3 (by rw [b4]; nofun)
  have hB:s.heap.BuiltinsAt C.mg q.P:=⟨bm,ob,b1,b2,hbG,hbP,hbo,b4,b5,b6⟩
  obtain ⟨⟨ps,hP,ht,hcv⟩,_⟩:=S.lam q hq
  subst hpos
  refine withTk (kla_eval hdef ?_) S.tk
  cases hca:codeAmong q.pos ps.toList with
  | some cv =>
    obtain ⟨c',o',vs,t,rfl,hn,hlo,hc',hd',hv'⟩:=hcv cv hca
    refine kla_makeFunctionHit (mg:=C.mg) hcl hge0 hg hcode hHd hP ht hca hB fun ctv h' tk hk hsz htk=>?_
    have S₁:=S.lams hq (p:=(c',o')) hn hlo hc'
    refine h h'.objs.size c' o' vs t _ hd' (by rw [← hqual]; exact hv') (S₁.grow (p:=.prd (LamO (env.qual ++ "<lambda>") params body scope clos c')) (fun b o e=>Heap.get?_push_of_some _ (hk b o e)) hsz (Heap.get?_push_size _ rfl) ⟨_,_,rfl⟩ tk htk)
  | none =>
    refine kla_makeFunction (mg:=C.mg) hcl hge0 hg hcode hHd hP ht hca hgP hB fun c' ctv h' tk hx hge hlt hrec htb htk=>?_
    obtain ⟨c2,o2,vs,t,e3,hc2,hd2,hv2⟩:=id hrec
    cases e3
    have S₁:=S.table hq hP ht hca hx hge (by rw [hqual]; exact hrec) htb htk
    have hn:c' ∉ σ.map (·.1):=fun hm=>by
      obtain ⟨y,hy,e4⟩:=List.mem_map.mp hm
      have:=S.lt (p:=y.2) hy
      rw [e4] at this
      exact Nat.lt_irrefl _ (Nat.lt_of_lt_of_le this hge)
    have S₂:=S₁.lams hq (p:=(c',o2)) hn (Nat.le_trans S.size hge) hc2
    exact h h'.objs.size c' o2 vs t _ hd2 hv2 (S₂.push (p:=.prd (LamO (env.qual ++ "<lambda>") params body scope clos c')) (o:=kla_obj "<lambda>" (env.qual ++ "<lambda>") params body scope clos ((C.mg "__name__").getD .none) c' ctv) ⟨_,_,rfl⟩ rfl tk htk)
theorem lamCall {R:Result→Shared→Prop} {qual:Str} {params:Arguments} {body:Expr} {scope:Scope} {clos:List (Str × Addr)} {c':Addr} {o':Obj} {vs:Array Value} {t:Tok} {hq:q∈C.lams} {args:Args} {binds:List (Str × Value)}
    (S:Sat (C.withLam q hq (c',o')) σ s) (hf:(f,.prd (LamO qual params body scope clos c'))∈σ) (hd:o'.data = .fields vs) (hv:vs[1]? = some (.str qual t)) (hroom:A.depth < recursionLimit)
    (hbind:∀ pm ctv,bindArgs (kla_fn "<lambda>" qual params body scope clos pm (.ref c') ctv) args = pure binds) (hloc:∀ y∈binds,scope.names.lookup y.1 = some .local)
    (h:∀ L s',Sat (C.withLam q hq (c',o')) ((L,.ns (binds.reverse.map fun y=>(y.1,er y.2)))::σ) s' →
      wpAny (model prog w) (A.deeper (envX qual scope L f (.ref c') clos)) (eval body (envX qual scope L f (.ref c') clos)) (fun v s''=>R (.ok (.ret v)) s'') (fun _ _=>False) s')
    (hco:scope.isCoroutine = false:=by rfl) (hgen:scope.isGenerator = false:=by rfl) (hk:scope.kind = .function:=by rfl) (hcell:∀ x∈scope.names,x.2 ≠ .cell:=by decide) :
    codeAny (model prog w) A (.call (.ref f) args) R s:=by
  obtain ⟨o,ho,pm,ctv,rfl⟩:=S.get hf
  obtain ⟨hn,hlo,hc⟩:=(S.lam _ (.head _)).fix (c',o') rfl
  refine kla_callFunE hroom ho rfl hco hgen rfl ⟨c',o',vs,t,rfl,hc,hd,hv⟩ ?_
  rw [hbind]
  refine wpAny_pure (wpAny_newFunctionEnv hcell hloc (fun h₁ hns hsb=>⟨S.lim.fresh _ hsb,?_⟩) hk)
  show codeAny _ _ (.expr body (envX qual scope s.heap.objs.size f (.ref c') clos)) _ _
  have hk₁:∀ b o,s.heap.get? b = some o→h₁.get? b = some o:=fun b o e=>hsb.extBut b o (Nat.ne_of_lt (Heap.lt_size e)) (Heap.get?_push_of_some _ e)
  obtain ⟨o',ho',hp'⟩:=PO.of_ns (m:=binds.reverse.map fun y=>(y.1,er y.2)) hns (fun x=>by
      induction binds.reverse with
      | nil=>rfl
      | cons y r ih =>
        rw [List.lookup_cons,List.map_cons,List.lookup_cons]
        cases (x == y.1) <;> simp_all)
  have S₁:=S.grow hk₁ (Nat.le_refl _) ho' hp' (s.toks + binds.length)
  exact kla_codeExpr (wpAny_mono (h _ _ S₁) (fun v s' hl=>hl) fun _ _ y=>y.elim)
end
noncomputable def er2 (p:Str × Value):Str × Value:=(p.1,er p.2)
noncomputable def dco (prog:Program) (w:World) (kvs:List (Str × Value)) (o:Obj):Prop :=
  o.ExactDict∧∃ es ep kv',o.data = .dict es ep∧KeysOf (PySem.strKind prog w) es∧Pairs (PySem.strKind prog w) es.toList kv'∧(kv'.map (·.1)).Nodup∧kv'.map er2 = kvs
noncomputable def dcp (prog:Program) (w:World) (kvs:List (Str × Value)):PO:=.prd (dco prog w kvs)
theorem stored_er (kv:List (Str × Value)) (k:Str) (v:Value):(stored kv k v).map er2 = stored (kv.map er2) k (er v):=by
  unfold stored
  have e:((kv.map er2).any fun p=>decide (p.1 = k)) = kv.any fun p=>decide (p.1 = k):=by rw [List.any_map]; rfl
  rw [e]
  split
  · rw [List.map_map,List.map_map]
    refine List.map_congr_left fun p _=>?_
    show er2 (if p.1 = k then (p.1,v) else p) = (if p.1 = k then (p.1,er v) else er2 p)
    split <;> rfl
  · rw [List.map_append]; rfl
theorem valueAt_er (kv:List (Str × Value)) (k:Str):(valueAt kv k).map er = valueAt (kv.map er2) k:=by
  unfold valueAt
  rw [List.find?_map]
  have e:((fun p:Str × Value=>decide (p.1 = k)) ∘ er2) = fun p=>decide (p.1 = k):=rfl
  rw [e]
  cases kv.find? fun p=>decide (p.1 = k) <;> rfl
section
variable {prog:Program} {w:World} {C:Cx} {A:Around} {σ σ' τ:Led} {α β:Type} {E:Value→Led→Prop} {env:Env} {s:Shared} {d a q:Addr} {kvs:List (Str × Value)} {k:Str} {t:Tok}
theorem dco_empty:dco prog w [] emptyDict:=⟨⟨rfl,rfl,rfl⟩,#[],0,[],rfl,fun e he=>by simp at he,.nil,.nil,rfl⟩
theorem Sat.dict (S:Sat C σ s) (hd:(d,dcp prog w kvs)∈σ):∃ kv',s.heap.DictOf (PySem.strKind prog w) d kv'∧kv'.map er2 = kvs∧(d == sysModules) = false:=by
  obtain ⟨o,ho,hex,es,ep,kv',h1,h2,h3,h4,h5⟩:=S.get hd
  refine ⟨kv',⟨o,es,ep,ho,hex,h1,h2,h3,h4⟩,h5,?_⟩
  have:=S.low _ hd
  have h6:=C.low
  refine beq_eq_false_iff_ne.mpr fun e=>?_
  have e1:sysModules < cStatics:=by decide
  have e2:d < cStatics:=e ▸ e1
  have e3:C.h₀.objs.size≤d:=this
  exact Nat.lt_asymm (Nat.lt_of_lt_of_le h6 e3) e2
theorem dco_of {h:Heap} {kv':List (Str × Value)} (x:h.DictOf (PySem.strKind prog w) d kv'):∃ o,h.get? d = some o∧dco prog w (kv'.map er2) o:=by
  obtain ⟨o,es,ep,ho,hex,h1,h2,h3,h4⟩:=x
  exact ⟨o,ho,hex,es,ep,kv',h1,h2,h3,h4,rfl⟩
theorem dictSetP {Q:Unit→Shared→Prop} {E:Value→Shared→Prop} {v:Value} (S:Sat C σ s) (U:Upd d (dcp prog w kvs) (dcp prog w (stored kvs k (er v))) σ σ') (hz:kvs.length≤1000000) (h:∀ s',Sat C σ' s'→Q () s'):wpAny (model prog w) A (dictSet d (.str k t) v) Q E s:=by
  obtain ⟨kv',hD,e,_⟩:=S.dict U.mem
  have hl:kv'.length = kvs.length:=by rw [← e,List.length_map]
  refine wpAny_dictSet_pairs (knd:=PySem.strKind prog w) (k:=k) (strKind_is ..) hD (fun h' hD' hs=>?_) (by rw [sizeLine_eq]; wtm_at "om")
  obtain ⟨o,ho,hp⟩:=dco_of hD'
  rw [stored_er,e] at hp
  exact h _ (S.set U hs ho hp _)
theorem T_trD {Q:Bool→Led→Prop} (hd:(d,dcp prog w kvs)∈σ) (hz:kvs.length≤1000000) (h:Q (!kvs.isEmpty) σ):T prog w C A σ (truthy (.ref d)) Q E:=fun _ S=>by
  obtain ⟨kv',hD,e,hs⟩:=S.dict hd
  have hl:kv'.length = kvs.length:=by rw [← e,List.length_map]
  refine wpAny_truthy_dict hs hD (by wtm_at "om") ?_
  have : (!kv'.isEmpty) = !kvs.isEmpty:=by rw [← e]; cases kv' <;> rfl
  rw [this]
  exact ⟨_,h,S.tok _⟩
theorem T_gmGet {pl:Sem Bool} {Q:Value × List Value→Led→Prop} (hd:(d,dcp prog w kvs)∈σ) (h:Q (.builtin "dict.get", [.ref d]) σ):T prog w C A σ (getMethod (.ref d) (Str.ofString "get") pl) Q E:=fun _ S=>by
  obtain ⟨kv',hD,e,hs⟩:=S.dict hd
  exact getMethod_builtin hD.typeIs PySem.F.plainAttrs_dict PySem.F.slot_dict_get PySem.F.type_dict_get hD.mapOf.noDict ⟨_,h,S⟩
theorem T_getNone {Q:Value→Led→Prop} (hd:(d,dcp prog w kvs)∈σ) (hv:valueAt kvs k = none) (h:Q .none σ):T prog w C A σ (call (.builtin "dict.get") [.ref d,.str k t]) Q E:=fun _ S=>by
  obtain ⟨kv',hD,e,hs⟩:=S.dict hd
  have hf:valueAt kv' k = none:=by
    have:=valueAt_er kv' k
    rw [e,hv] at this
    exact Option.map_eq_none_iff.mp this
  refine call_meetsIn PySem.F.slot_dict_get hD.typeIs PySem.F.entry_dict_get (PySem.F.args_dict_get_2 _ _) (meets_dict_get (PySem.strKind prog w) (k:=k) d (strKind_is ..) hs) ⟨_,hD.mapOf,?_⟩
  rw [hf]
  exact ⟨_,h,S.tok _⟩
theorem T_itemD {value slice:Expr} {Q:Value→Led→Prop} {pv:Value} (hd:(d,dcp prog w kvs)∈σ) (hv:valueAt kvs k = some pv) (h:Vs pv fun v=>Q v σ)
    (hs:subscripted slice false (.ref d) (.str k t) = operate [.ref d,.str k t] (getItem (.ref d) (.str k t)):=by with_unfolding_all rfl):T prog w C A σ (subscriptTail value slice (.ref d) (.str k t)) Q E:=fun _ S=>by
  obtain ⟨kv',hD,e,hsm⟩:=S.dict hd
  have:=valueAt_er kv' k
  rw [e,hv] at this
  obtain ⟨v,hf,he⟩:=Option.map_eq_some_iff.mp this
  exact tail_any hD.typeIs slot_dict_getitem.lookup (wpAny_getItem_of (knd:=PySem.strKind prog w) (k:=k) (strKind_is ..) hD.mapOf hf ((h.led (S.tok _)).get he)) hs
theorem T_itemLneg {value slice:Expr} {l:Addr} {xs:List Value} {i:Int} {u:Tok} {pv:Value} {Q:Value→Led→Prop} (hl:(l,.lst xs)∈σ) (h0:i < 0) (h1:-(xs.length:Int)≤i) (hf:-(2 ^ 63)≤i) (hx:xs[(i + xs.length).toNat]? = some pv) (h:Vs pv (fun v=>Q v σ))
    (hs:subscripted slice false (.ref l) (.int i u) = operate [.ref l,.int i u] (getItem (.ref l) (.int i u)):=by with_unfolding_all rfl):T prog w C A σ (subscriptTail value slice (.ref l) (.int i u)) Q E:=fun s S=>by
  obtain ⟨its,hL,he⟩:=S.isList hl
  have hn:=lst_len he
  rw [← he,List.getElem?_map] at hx
  obtain ⟨v,hv,e⟩:=Option.map_eq_some_iff.mp hx
  refine tail_any hL.typeIs slot_list_getitem.lookup (wpAny_getItem_list_neg (x:=v) hL h0 (by rw [hn]; exact h1) hf ?_ ((h.led S).get e)) hs
  rw [hn]
  rw [List.length_map,Array.length_toList] at hv
  rw [← hn]
  simpa using hv
theorem T_itemT {value slice:Expr} {l:Addr} {xs:List Value} {i:Int} {u:Tok} {pv:Value} {Q:Value→Led→Prop} (hl:(l,.tup xs)∈σ) (h0:0≤i) (hf:i < 2 ^ 63) (hx:xs[i.toNat]? = some pv) (h:Vs pv (fun v=>Q v σ))
    (hs:subscripted slice false (.ref l) (.int i u) = operate [.ref l,.int i u] (getItem (.ref l) (.int i u)):=by with_unfolding_all rfl):T prog w C A σ (subscriptTail value slice (.ref l) (.int i u)) Q E:=fun s S=>by
  obtain ⟨o,ho,its,n,rfl,he⟩:=S.get hl
  have hn:its.size = xs.length:=by rw [← he,List.length_map,Array.length_toList]
  rw [← he,List.getElem?_map] at hx
  obtain ⟨v,hv,e⟩:=Option.map_eq_some_iff.mp hx
  have hlt:i.toNat < its.size:=by
    have:=(List.getElem?_eq_some_iff.mp hv).1
    simpa using this
  refine item_tupleT (l:=its.toList) ⟨_,ho,rfl,n,by simp⟩ (by wtm_at "om") hf (j:=i.toNat) ?_ hv ((h.led S).get e) hs
  unfold seqIndex?
  simp
  wtm_at "om"
theorem T_neg {x:Expr} {pos:Pos} {Q:Value→Led→Prop} (h:T prog w C A σ (eval x env) (fun v σ₁=>T prog w C A σ₁ (unaryOp .USub v) Q E) E):T prog w C A σ (eval (.UnaryOp .USub x pos) env) Q E:=fun _ S=>wpAny_UnaryOp (h.k S fun _ _ _ h S=>h _ S)
theorem T_negI {i:Int} {u:Tok} {Q:Value→Led→Prop} (h:∀ t,Q (.int (-i) t) σ):T prog w C A σ (unaryOp .USub (.int i u)) Q E:=fun _ S=>PyProof.Rows.neg_int ⟨_,h _,S.tok _⟩
noncomputable def bndM (f x:Addr):PO:=.raw (methodObj (.ref f) (.ref x))
structure MB (K:Frag) (c:Addr) (n:Str) (f:Addr):Prop where
  g:plainGet K c n = true
  h:hasDictIn K c = true
  a:findIn K (.ref c) n = some (some (.ref f))
  ty:typeIn K (.ref f) = some (.type "function")
  sp:specialIn K (.ref f) "__get__" = some (some (.builtin "function.__get__"))
  tk:takesIn K (.ref f) = some false
  cp:copiedNames.contains n = false
theorem T_getBnd {x Cc f:Addr} {name:Str} {m:List (Str × Value)} {Q:Value→Led→Prop} {expr:Bool} (hm:(x,.ins Cc d)∈σ) (hd:(d,.idc m)∈σ) (hc:MB C.K Cc name f) (hx:m.lookup name = none) (h:∀ q,Q (.ref q) ((q,bndM f x)::σ)):T prog w C A σ (getAttr (.ref x) name expr) Q E:=fun s S=>by
  obtain ⟨od,es,ep,I,ho,e,k,ff,z⟩:=S.inst hm hd
  have q:=ff name
  rw [hx,Option.map_eq_none_iff] at q
  refine get_bind S.kin I (plainGet_of hc.g).1 (findObj_fn hc.h hc.a hc.sp hc.tk hc.cp (by rw [look_of e k,q])) (plainGet_of hc.g).2 (wpAny_call (fn_get (s:={ s with toks:=s.toks + 1 }) S.kin hc.ty (handed_on rfl ?_)))
  exact ⟨_,h _,S.push (p:=bndM f x) rfl rfl (s.toks + 1)⟩
theorem T_callBM {x f:Addr} {of:Obj} {fd:FuncData} {pos:Pos} {first:List Value} {e:Expr} {rest:List Expr} {Q:Value→Led→Prop} (hq:(q,bndM f x)∈σ) (hf:C.K.lookup f = some of) (hfd:of.data = .func fd)
    (h:T prog w C A σ (spliced (backTo pos (starEach (e::rest) env))) (fun vs σ₁=>(q,bndM f x)∈σ₁∧T prog w C A σ₁ (call (.ref q) (first ++ vs)) Q E) E)
    (he:starEach (e::rest) env = (false,eval e env)::starEach rest env:=by rfl) (hp:(backTo pos (starEach rest env)).any (·.1) = false:=by rfl):T prog w C A σ (callWith pos (.ref q) first (backTo pos (starEach (e::rest) env)) []) Q E:=fun s S=>by
  have h':=h s S
  rw [he] at h' ⊢
  refine callWith_of (P:=fun h=>h.get? q = some (methodObj (.ref f) (.ref x))∧h.get? f = some of) (by show ((false || (backTo pos (starEach rest env)).any (·.1)) || false) = false; rw [hp]; rfl) (fun h hp=>⟨.boundFrame,.inr (.inr rfl),?_⟩)
    (evalArgs_plain (wpAny_mono h' (fun vs s₁ ⟨σ',⟨hq',h1⟩,S'⟩=>?_) fun _ _ e=>e))
  · unfold keeperOf
    refine (Looks.ld (part:=none) hp.1).andThen ?_
    refine (Looks.ld (part:=none) hp.2).andThen ?_
    rw [hfd]
    exact .now
  · obtain ⟨o,ho,e⟩:=S'.get hq'
    have e:o = _:=e
    subst e
    exact ⟨⟨ho,S'.kin _ _ hf⟩,h1 _ S'⟩
theorem T_bm {x f:Addr} {args:List Value} {Q:Value→Led→Prop} (hq:(q,bndM f x)∈σ) (h:TC prog w C A σ (.call (.ref f) ⟨.ref x::args,[]⟩) (fun r σ'=>match r with | .ok (.ret v)=>Q v σ' | _=>False)):T prog w C A σ (call (.ref q) args) Q E:=fun s S=>by
  obtain ⟨o,ho,e⟩:=S.get hq
  have e:o = _:=e
  subst e
  refine wpAny_call (ks_codeAny_call_bound ho (codeAny_mono (h s S) fun r s' ⟨σ',hr,S'⟩=>?_))
  cases r with
  | error e=>exact hr.elim
  | ok fl=>cases fl with
    | ret v=>exact ⟨σ',hr,S'⟩
    | _=>exact hr.elim
end
section
variable {prog:Program} {w:World} {C:Cx} {A:Around} {σ σ' τ:Led} {α β:Type} {E:Value→Led→Prop} {env:Env} {s:Shared} {d a q it:Addr} {kvs:List (Str × Value)} {k:Str} {t:Tok}
theorem Sat.dictAt (S:Sat C σ s) (hd:(d,dcp prog w kvs)∈σ):∃ kv' ep,s.heap.DictAt (PySem.strKind prog w) d kv' ep∧kv'.map er2 = kvs∧(d == sysModules) = false:=by
  obtain ⟨kv',h1,h2,h3⟩:=S.dict hd
  obtain ⟨ep,h4⟩:=h1.dictAt
  exact ⟨kv',ep,h4,h2,h3⟩
end
section
variable {prog:Program} {w:World} {C:Cx} {A:Around} {σ σ' τ:Led} {α β:Type} {E:Value→Led→Prop} {env:Env} {s:Shared} {d a q it D:Addr} {kvs:List (Str × Value)} {k:Str} {t:Tok}
theorem T_DCu {kx vx iter:Expr} {x y:Str} {px py:Pos} {scope:Scope} {pos spos:Pos} (cl:List (Str × Addr)) {Q:Flow→Led→Prop}
    (hsw:swapsWith (.DictComp kx vx [⟨.Name x px,iter,[],0⟩] scope pos) (some (.Name y py)) spos.line env = Pure.pure true) (hclos:closureFor scope env = Pure.pure cl) (hkind:scope.kind = .function) (hnames:∀ x∈scope.names,x.2 = .local→scope.names.lookup x.1 = some .local)
    (h:T prog w C A σ (eval iter env) (fun xv σ₁=>T prog w C A σ₁ (pyIter xv) (fun it σ₂=>CompT prog w C A σ₂ env (.DictComp kx vx [⟨.Name x px,iter,[],0⟩] scope pos) scope cl newDict (some (assign (.Name y py) env)) (fun _=>Q .next) E it) E) E)
    (hs:∀ x,foldedSetIterable iter env x = Pure.pure x:=by intro _; rfl):T prog w C A σ (exec (.Assign [.Name y py] (.DictComp kx vx [⟨.Name x px,iter,[],0⟩] scope pos) spos) env) Q E:=by
  rw [exec_Assign_Name_used _ _ _ _ hsw]
  refine T.bind (T.standAt (T.bind ?_))
  unfold evalThenUse
  refine T.bind (wpAny_comp_free (Q:=fun _ σ'=>T prog w C A σ' (Pure.pure ()) (fun _ σ'=>T prog w C A σ' (Pure.pure Flow.next) Q E) E) rfl hs hclos hkind hnames (h.mono (fun xv σ₁ h=>h.mono (fun it σ₂ h=>?_) fun _ _ e=>e) fun _ _ e=>e))
  intro s S
  refine wpAny_mono (h s S) (fun acc s₃ h=>wpAny_mono h (fun cenv s₄ h=>codeAny_mono h fun r s' h=>?_) fun _ _ e=>e) fun _ _ e=>e
  cases r with
  | error e=>exact h
  | ok f =>
    refine wpAny_mono h (fun _ s'' ⟨m,hn,hq⟩=>⟨m,hn,fun h' hs'=>?_⟩) fun _ _ e=>e
    obtain ⟨σ',hq,S'⟩:=hq h' hs'
    exact ⟨σ',T.pure (T.pure hq),S'⟩
theorem T_DCB {kx vx iter:Expr} {x:Str} {px:Pos} {scope:Scope} {pos:Pos} {cl:List (Str × Addr)} {Q:Value→Led→Prop} {use:Option (Value→Sem Unit)} {po:Nat→PO} {xs:List Value} {need:Led→Prop}
    (I:Its C prog w A it po xs need) (J:List Value→List (Str × Value)→Led→Prop) (h0:J xs [] τ)
    (hn:∀ r ac τ,J r ac τ→need τ) (hsz:∀ r ac τ,J r ac τ→ac.length≤1000000) (hk:scope.kind = .function) (hx:scope.names.lookup x = some .local) (hcell:∀ y∈scope.names,y.2 ≠ .cell)
    (turn:∀ D L pv r ac τ i m,J (pv::r) ac τ→T prog w C A ((it,po i)::(L,.ns ((x,pv)::m))::(D,dcp prog w ac)::τ) (eval kx (compEnvC scope cl L env)) (fun kv σ₁=>T prog w C A σ₁ (eval vx (compEnvC scope cl L env)) (fun vv σ₂ =>
      Ex3 fun k t τ'=>Al3 (kv = .str k t) (J r (stored ac k (er vv)) τ') (((it,po i)::(L,.ns ((x,pv)::m))::(D,dcp prog w ac)::τ').Sublist σ₂)) NoE) NoE)
    (fin:∀ ac τ,J [] ac τ→FinC prog w C A τ (dcp prog w ac) Q E use) (hneed:∀ q τ,need τ→need (q::τ):=by intro _ _ h; first | exact .tail _ h | exact h) :
    CompT prog w C A ((it,po 0)::τ) env (.DictComp kx vx [⟨.Name x px,iter,[],0⟩] scope pos) scope cl newDict use Q E (.ref it):=by
  intro s S
  unfold CompRestU
  refine wpAny_newObj_type ?_
  have S₁:=S.push (p:=dcp prog w []) (o:=emptyDict) dco_empty rfl s.toks
  generalize hD:s.heap.objs.size = D at S₁
  generalize hs₁:({ s with heap:=s.heap.push emptyDict,toks:=s.toks }:Shared) = s₁ at S₁
  refine wpAny_newFunctionEnv hcell (by intro y hy; simp at hy) (fun h₁ hns hsb=>?_) hk
  obtain ⟨oL,hoL,hpL⟩:=PO.of_ns (m:=[]) hns (fun x=>rfl)
  have kk:∀ b o,s₁.heap.get? b = some o→h₁.get? b = some o:=fun b o e=>hsb.extBut b o (Nat.ne_of_lt (Heap.lt_size e)) (Heap.get?_push_of_some _ e)
  have S₂:=S₁.grow kk (Nat.le_refl _) hoL hpL (s₁.toks + ([]:List (Str × Value)).length)
  generalize hL:s₁.heap.objs.size = L at *
  have S₃:=S₂.perm (σ':=(it,po 0)::(L,.ns [])::(D,dcp prog w [])::τ) ((List.Perm.cons _ (List.Perm.swap _ _ _)).trans (List.Perm.swap _ _ _))
  have hxl:(compEnvC scope cl L env).kindOf x = some .local:=lookup_relabel_local hx
  have hkf:(compEnvC scope cl L env).scope.kind = .function:=by simp [compEnvC,relabel,hk]
  have loop:codeAny (model prog w) A (.compLoop (.DictComp kx vx [⟨.Name x px,iter,[],0⟩] scope pos) 0 (.ref it) (.ref D) (compEnvC scope cl L env)) (compPost (model prog w) A (fun e s'=>∃ σ',E e σ'∧Sat C σ' s') use (fun v s'=>∃ σ',Q v σ'∧Sat C σ' s') (.ref D) L)
      { s₁ with heap:=h₁,toks:=s₁.toks + ([]:List (Str × Value)).length }:=by
    refine codeAny_compLoop_testsD (fun k s'=>Ex5 fun i r ac τ m=>Al4 (k + i = xs.length) (r = xs.drop i) (J r ac τ) (Sat C ((it,po i)::(L,.ns m)::(D,dcp prog w ac)::τ) s')) ?_ xs.length ⟨0,xs,[],τ,[],rfl,rfl,h0,S₃⟩
    rintro k s' ⟨i,r,ac,τ,m,hk',rfl,hJ,S'⟩
    refine I.next (hneed _ _ (hneed _ _ (hn _ _ _ hJ))) S' (fun hx' s₁ S₁=>?_) fun pv v hpv hv s₁ S₁=>?_
    · rw [List.drop_eq_nil_iff.mpr (List.getElem?_eq_none_iff.mp hx')] at hJ
      exact (fin ac τ hJ).post S₁
    · have hlt:i < xs.length:=(List.getElem?_eq_some_iff.mp hpv).1
      have hd:xs.drop i = pv::xs.drop (i + 1):=by
        rw [List.drop_eq_getElem_cons hlt,(List.getElem?_eq_some_iff.mp hpv).2]
      rw [hd] at hJ
      refine wpAny_assign_Name (stL (env:=compEnvC scope cl L env) S₁ (.tail .head) hxl hkf fun s₂ S₂=>?_)
      rw [hv] at S₂
      rw [List.forIn_nil]
      refine wpAny_pure ?_
      rw [if_pos rfl]
      refine (turn D L pv _ ac τ (i + 1) m hJ).kN S₂ fun kv σ₁ s₃ h₁ S₃=>T.kN (E':=_) h₁ S₃ fun vv σ₂ s₄ h₂ S₄=>?_
      obtain ⟨kk,t,τ',rfl,hJ',hsub⟩:=h₂
      have S₅:=S₄.sub hsub
      refine dictSetP S₅ (.tail (.tail .head)) (hsz _ _ _ hJ) fun s₅ S₆=>?_
      exact ⟨k - 1,by wtm_at "om", i + 1,_,_,τ',_,by wtm_at "om", rfl,hJ',S₆⟩
  exact codeAny_compStart_dict loop (I.self S₃ loop)
theorem T_FStr {v₁ v₂:Expr} {rest:List Expr} {pos:Pos} {Q:Value→Led→Prop} (h:T prog w C A σ (joinParts Str.empty (eval v₁ env::eval v₂ env::evalEach rest env)) Q E):T prog w C A σ (eval (.JoinedStr (v₁::v₂::rest) pos) env) Q E:=fun _ S=>JoinedStr_many (h _ S)
theorem T_jp0 {out:Str} {Q:Value→Led→Prop} (hz:out.length≤1000000) (h:∀ t,Q (.str out t) σ):T prog w C A σ (joinParts out []) Q E:=fun _ S=>joinParts_nil ⟨_,h _,S.tok _⟩ (by rw [sizeLine_eq]; wtm_at "om")
theorem T_jp0E {out:Str} {Q:Value→Led→Prop} (hz:out.length≤1000000) (h:∀ t,Q (.str out t) σ):T prog w C A σ (joinParts out (evalEach [] env)) Q E:=T_jp0 hz h
inductive JpK (v:Value) (out:Str) (k:Str→Prop):Prop
  | mk (y:Str) (t:Tok) (e:v = .str y t) (h1:out.length + y.length≤1000000) (h2:k (out ++ y)):JpK v out k
theorem T_jp1 {out:Str} {x:Sem Value} {rest:List (Sem Value)} {Q:Value→Led→Prop} (h:T prog w C A σ x (fun v σ₁=>JpK v out fun z=>T prog w C A σ₁ (joinParts z rest) Q E) E):T prog w C A σ (joinParts out (x::rest)) Q E:=fun _ S =>
  joinParts_cons (h.k S fun v _ _ ⟨y,t,e,hz,h⟩ S=>by
    subst e
    exact ⟨by rw [strLen_append,sizeLine_eq]; wtm_at "om", h _ S⟩)
theorem T_jp1E {out:Str} {e:Expr} {rest:List Expr} {Q:Value→Led→Prop} (h:T prog w C A σ (eval e env) (fun v σ₁=>JpK v out fun z=>T prog w C A σ₁ (joinParts z (evalEach rest env)) Q E) E):T prog w C A σ (joinParts out (evalEach (e::rest) env)) Q E:=T_jp1 h
theorem T_fv {value:Expr} {pos:Pos} {Q:Value→Led→Prop} (h:T prog w C A σ (eval value env) (fun v σ₁=>T prog w C A σ₁ (formatField v Str.empty) Q E) E):T prog w C A σ (eval (.FormattedValue value (-1) none pos) env) Q E:=fun _ S=>FormattedValue_plain (h.k S fun _ _ _ h S=>h _ S)
theorem T_fvS {x:Str} {t:Tok} {Q:Value→Led→Prop} (hz:x.length≤1000000) (h:∀ t,Q (.str x t) σ):T prog w C A σ (formatField (.str x t) Str.empty) Q E:=fun _ S =>
  withTk (formatField_str (fun t' tk hk=>⟨_,h t',S.tok tk hk⟩) (by rw [sizeLine_eq]; wtm_at "om")) S.tk
end
section
variable {prog:Program} {w:World} {C:Cx} {A:Around} {σ σ' τ:Led} {E:Value→Led→Prop} {env:Env} {s:Shared} {q:LamTab} {c:Addr}
end
theorem mb_qname {K:Frag} {P:Params} (hK:K = KK P):MB K 199 (Str.ofString "_qname") 139:=by
  subst hK
  exact ⟨by kernel_rfl!,by kernel_rfl!,by kernel_rfl!,by kernel_rfl!,by kernel_rfl!,by kernel_rfl!,by kernel_rfl!⟩
section
variable {prog:Program} {w:World} {C:Cx} {A:Around} {σ σ':Led} {E:Value→Led→Prop}
theorem T.nd {α:Type} {t:Sem α} {Q:α→Led→Prop} (h:(σ.map (·.1)).Nodup→T prog w C A σ t Q E):T prog w C A σ t Q E:=fun s S=>h S.nd s S
theorem TC.nd {c:Code} {Q:Result→Led→Prop} (h:(σ.map (·.1)).Nodup→TC prog w C A σ c Q):TC prog w C A σ c Q:=fun s S=>h S.nd s S
theorem TC.out {c:Code} {R R':Result→Led→Prop} (h:TC prog w C A σ c R') (hR:∀ r σ',R' r σ'→∃ σ'',R r σ''∧∀ s,Sat C σ' s→Sat C σ'' s):TC prog w C A σ c R:=fun s S =>
  codeAny_mono (h s S) fun r s' ⟨σ',h1,S'⟩=>let ⟨σ'',h2,k⟩:=hR r σ' h1; ⟨σ'',h2,k s' S'⟩
theorem sub_cons {α:Type} {a b:α} {l l':List α} (h:a = b) (hl:l.Sublist l'):(a::l).Sublist (b::l'):=h ▸ hl.cons_cons a
theorem TC.drop {c:Code} {R:Result→Led→Prop} {σ':Led} (h:TC prog w C A σ' c R) (hs:σ'.Sublist σ):TC prog w C A σ c R:=fun s S=>h s (S.sub hs)
theorem Rm.le {m k:Nat} (r:Rm m A) (h:k≤m):Rm k A:=by
  obtain ⟨d,rfl⟩:=Nat.exists_eq_add_of_le h
  induction d with
  | zero=>exact r
  | succ d ih=>exact ih r.down (Nat.le_add_right _ _)
end
section
variable {prog:Program} {w:World} {C:Cx} {A:Around} {σ σ' τ:Led} {E:Value→Led→Prop} {env:Env} {s:Shared} {l a b d:Addr} {xs:List Value} {x y:Str} {t u v:Tok} {k:Int} {kvs:List (Str × Value)}
theorem splitMS {Q:Value→Shared→Prop} (S:Sat C σ s) (hy:(y.length == 0) = false) (hk:(decide (k < -(2 ^ 63:Int)) || decide (k ≥ 2 ^ 63)) = false) (hx:x.length≤1000000)
    (h:∀ D s',Sat C ((D,.lst (txts (Txt.splitMax x y k)))::σ) s'→Q (.ref D) s'):wpAny (model prog w) A (call (.builtin "str.split") [.str x t,.str y u,.int k v]) Q (fun _ _=>False) s:=by
  have hsz:x.length≤sizeLine:=by rw [sizeLine_eq]; wtm_at "om"
  have hn:(Builtin.Str.partsBetween x (Builtin.Str.occurrences x y 0 x.length (limitOf x k)) y.length).length≤sizeLine:=by
    have e1:=StrLaws.occ_length_le_len x y 0 x.length (limitOf x k)
    rw [length_partsBetween,sizeLine_eq]; wtm_at "om"
  have key:∀ (l:List (Str × Tok)) k',l.map (·.1) = Txt.splitMax x y k→0 < k'→Q (.ref s.heap.objs.size) { s with toks:=k',heap:=s.heap.push { cls:=.type "list", data:=.seq (strValues l).toArray } }   := fun l k' e hk=>by
    refine h _ _ (S.push (p:=.lst _) ⟨_,0,rfl,?_⟩ rfl k')
    rw [strs_er,e]
  cases h1:(decide (x.length < y.length) || decide (Builtin.Str.strKind x < Builtin.Str.strKind y))
  · cases hf:(Builtin.Str.occurrences x y 0 x.length (limitOf x k)).isEmpty
    · refine call_meets F.slot_str_split (typeIs_str _ _ _) F.entry_str_split (F.args_str_split_3 _ _ _) (meets_str_split_sep_max x y k t u v hk h1 hy hf hsz hn) ?_
      show wants Q _ _ { s with toks:=_,heap:=s.heap.push { cls:=.type "list", data:=.seq (strsFrom s.toks (Builtin.Str.partsBetween x (Builtin.Str.occurrences x y 0 x.length (limitOf x k)) y.length)).toArray } }
      rw [strsFrom_eq]
      exact key (numbered s.toks _) _ ((numbered_texts _ _).trans ((if_neg (ne_true_of_eq_false h1)).trans (if_neg (ne_true_of_eq_false hf))).symm) (by wtm_at "r_pos")
    · exact call_meets F.slot_str_split (typeIs_str _ _ _) F.entry_str_split (F.args_str_split_3 _ _ _) (meets_str_split_max_not_found x y k t u v hk h1 hy hf)
        (key [(x,t)] _ ((if_neg (ne_true_of_eq_false h1)).trans (if_pos hf)).symm (by wtm_at "r_pos"))
  · exact call_meets F.slot_str_split (typeIs_str _ _ _) F.entry_str_split (F.args_str_split_3 _ _ _) (meets_str_split_max_cannot_occur x y k t u v hk h1)
      (key [(x,t)] _ (if_pos h1).symm (by wtm_at "r_pos"))
theorem T_splitM {Q:Value→Led→Prop} (hy:(y.length == 0) = false) (hk:(decide (k < -(2 ^ 63:Int)) || decide (k ≥ 2 ^ 63)) = false) (hx:x.length≤1000000)
    (h:∀ D,Q (.ref D) ((D,.lst (txts (Txt.splitMax x y k)))::σ)):T prog w C A σ (call (.builtin "str.split") [.str x t,.str y u,.int k v]) Q E:=fun _ S =>
  wpAny_mono (splitMS (Q:=fun v s'=>∃ σ',Q v σ'∧Sat C σ' s') S hy hk hx fun D _ S'=>⟨_,h D,S'⟩) (fun _ _ h=>h) fun _ _ h=>h.elim
theorem T_callAppB {v:Value} {Q:Value→Led→Prop} (ha:(a,.raw (bndO "list.append" (.ref l)))∈σ) (U:Upd l (.lst xs) (.lst (xs ++ [er v])) σ σ') (hz:xs.length≤1000000) (h:Q .none σ'):T prog w C A σ (call (.ref a) [v]) Q E:=fun _ S=>callAppB S ha U hz fun _ S'=>⟨_,h,S'⟩
end
noncomputable def rgp (n:Nat):PO:=.prd fun o=>∃ t u v,o = { cls:=.type "range", data:=.fields #[.int 0 t,.int n u,.int 1 v] }
section
variable {prog:Program} {w:World} {C:Cx} {A:Around} {σ ρ:Led} {E:Value→Led→Prop} {Q:Value→Led→Prop} {t u:Tok}
theorem T_range {n:Nat} {k:Int} (hk:k = n) (h:∀ r,Q (.ref r) ((r,rgp n)::σ)):T prog w C A σ (call (.type "range") [.int k t]) Q E:=fun s S=>by
  subst hk
  exact call_range_1 ⟨_,h _,S.push (p:=rgp n) ⟨_,_,_,rfl⟩ rfl _⟩
theorem T_iterR {n:Nat} {r:Addr} (hr:(r,rgp n)∈σ) (hn:n≤1000000) (h:∀ it,Q (.ref it) ((it,ritr 0 1 n 0)::σ)):T prog w C A σ (pyIter (.ref r)) Q E:=fun s S=>by
  obtain ⟨o,ho,a,b,c,rfl⟩:=S.get hr
  refine wpAny_pyIter_range (a:=0) (b:=n) (c:=1) ho (small_one (by decide) (by decide) (by wtm_at "om") (by wtm_at "om")) ⟨_,h _,S.push (p:=ritr 0 1 n 0) ?_ rfl _⟩
  have e:Builtin.Range.rangeSize 0 n 1 = n:=by rw [rangeSize_one]; split <;> wtm_at "om"
  rw [e]
  show _ = _
  simp
theorem T_itemS {value slice:Expr} {x:Str} {k:Int} {c:Nat} (h0:0≤k) (hfit:k < 2 ^ 63) (hc:(seqIndex? k x.length).bind (x.cps[·]?) = some c) (h:∀ t,Q (.str ⟨#[c]⟩ t) σ)
    (hs:subscripted slice false (.str x t) (.int k u) = operate [.str x t,.int k u] (getItem (.str x t) (.int k u)):=by with_unfolding_all rfl):T prog w C A σ (subscriptTail value slice (.str x t) (.int k u)) Q E:=fun s S =>
  tail_any (typeIs_str _ _ _) PySem.F.slot_str_getitem.lookup (P.getItem_str (by rw [Bool.or_eq_false_iff,decide_eq_false_iff_not,decide_eq_false_iff_not]; wtm_at "om") hc ⟨_,h _,S.tok _⟩) hs
theorem divp {k:Nat} (h:k < 6) (a:Int):Builtin.divisionGoesByPylong a ((10 ^ k:Nat):Int) = false:=by
  unfold Builtin.divisionGoesByPylong
  have : ∀ k,k < 6→(decide ((if (((10 ^ k:Nat):Int) == 0) = true then 0 else ((10 ^ k:Nat):Int).natAbs.log2 / 30 + 1) > 300)) = false:=by decide +kernel
  dsimp only
  rw [Bool.and_eq_false_iff]
  exact .inl (this k h)
theorem fm_txts {α:Type} {l:List α} {g:α→Str}:List.filterMap (fun k=>some (Value.str (g k) 0)) l = txts (l.map g):=by
  unfold txts
  induction l with
  | nil=>rfl
  | cons a r ih=>rw [List.filterMap_cons,List.map_cons,List.map_cons,ih]
end
noncomputable def pick (xs:List Value) (lo hi st:Option Int):List Value:=(slicePick xs.toArray lo hi st).toList
theorem pick_er {items:Array Value} {lo hi st:Option Int}:(slicePick items lo hi st).toList.map er = pick (items.toList.map er) lo hi st:=by
  unfold pick slicePick
  simp only [List.size_toArray,List.length_map,Array.length_toList,List.map_filterMap]
  congr 1
  funext i
  simp
section
variable {prog:Program} {w:World} {C:Cx} {A:Around} {σ:Led} {E:Value→Led→Prop} {env:Env}
end
theorem slot_md_get:Slot "method_descriptor" "__get__" "method_descriptor.__get__" :=
  .of (owner := "method_descriptor") (n := "__get__") (by rw [typeLookup_type,builtinLookup_eq_fast]; kernel_rfl) (by decide +kernel) (by decide +kernel) (by decide +kernel)
    (by first | exact .inl (by decide +kernel) | exact .inr (by decide +kernel)) (by rw [isSubtype_type]; kernel_rfl)
theorem tl_md_set:typeLookup (.type "method_descriptor") "__set__" = pure none:=by rw [typeLookup_type,builtinLookup_eq_fast]; kernel_rfl
theorem tl_md_del:typeLookup (.type "method_descriptor") "__delete__" = pure none:=by rw [typeLookup_type,builtinLookup_eq_fast]; kernel_rfl
theorem entry_md_get:entryFor table "method_descriptor.__get__" = some Builtin.«method_descriptor.__get__»:=entryFor_of_tree (by kernel_rfl)
theorem args_md_get (a b c:Value):argsOk "method_descriptor.__get__" ⟨[a,b,c],[]⟩:=by unfold argsOk; kernel_rfl
theorem tl_append:typeLookup (.type "list") (Str.ofString "append") = pure (some (.builtin "list.append")):=by rw [typeLookup_type,builtinLookup_eq_fast]; kernel_rfl
theorem ty_append:typeOf (.builtin "list.append") = pure (.type "method_descriptor"):=by kernel_rfl
theorem own_append:(".".intercalate ("list.append".cutAt '.').dropLast) = "list" := by
  have e0 : "list.append".cutAt '.' = ["list", "append"]:=by first | rfl | decide +kernel
  rw [e0]; decide +kernel
theorem sub_append:isSubtype (.type "list") (.type (".".intercalate ("list.append".cutAt '.').dropLast)) = pure true:=by
  rw [own_append,isSubtype_type]; kernel_rfl
section
variable {prog:Program} {w:World} {A:Around} {E:Value→Shared→Prop} {h:Heap} {g:Array GenState} {d:Drawn} {t:Nat} {os:OsState} {a:Addr} {o:Obj}
theorem md_get_append {R:Result→Shared→Prop} (hx:h.get? a = some o) (hc:o.cls = .type "list") (hq:R (.ok (.ret (.ref h.objs.size))) ⟨h.push (bndO "list.append" (.ref a)),g,d,t,os⟩) :
    codeAny (model prog w) A (.call (.builtin "method_descriptor.__get__") ⟨[.builtin "list.append", .ref a,.type "list"],[]⟩) R ⟨h,g,d,t,os⟩:=by
  have hT:(⟨h,g,d,t,os⟩:Shared).TypeIs (.ref a) "list" := ⟨_,hx,hc⟩
  have hT5:(⟨h,g,d,t,os⟩:Shared).TypeIs (.builtin "list.append") "method_descriptor" := ty_append
  have f8:=sub_append
  have ht:Manifest.toldItsClass.contains "list.append" = true ∨ Manifest.toldItsClass.contains "list.append" = false:=by cases Manifest.toldItsClass.contains "list.append" <;> simp
  refine codeAny_call_builtin slot_md_get.plain entry_md_get (slot_md_get.check _ _ _ _ _ _ _ _ hT5 (args_md_get _ _ _) ?_)
  repeat (any_goals (first | assumption | wp_step))
theorem ga_append {u:Tok} {Q:Fin→Shared→Prop} {xs:Array Value} {k:Nat} (hx:h.get? a = some { cls:=.type "list", data:=.seq xs k }) (hq:Q (.done (.ret (.ref h.objs.size))) ⟨h.push (bndO "list.append" (.ref a)),g,d,t,os⟩) :
    wpAny (model prog w) A (Builtin.«object.__getattribute__» ⟨[.ref a,.str (Str.ofString "append") u],[]⟩) Q E ⟨h,g,d,t,os⟩:=by
  have hT:(⟨h,g,d,t,os⟩:Shared).TypeIs (.ref a) "list" := ⟨_,hx,rfl⟩
  have f4:=tl_append
  have f5:=ty_append
  have f6:=slot_md_get.lookup
  have f7:=tl_md_set
  have f8:=tl_md_del
  repeat (any_goals (first | assumption | wp_step))
  refine md_get_append hx rfl ?_
  repeat (any_goals (first | assumption | wp_step))
theorem get_append {xs:Array Value} {k:Nat} {Q:Value→Shared→Prop} (hx:h.get? a = some { cls:=.type "list", data:=.seq xs k }) (hq:Q (.ref h.objs.size) ⟨h.push (bndO "list.append" (.ref a)),g,d,t + 1,os⟩) :
    wpAny (model prog w) A (getAttr (.ref a) (Str.ofString "append") true) Q E ⟨h,g,d,t,os⟩:=by
  have hT:∀ tk',(⟨h,g,d,tk',os⟩:Shared).TypeIs (.ref a) "list" := fun _=>⟨_,hx,rfl⟩
  have f3:=F.slot_list_getattribute.lookup
  have f4:=F.slot_list_getattribute.bind (.ref a)
  unfold getAttr getAttrBy
  repeat (any_goals (first | assumption | exact hT _ | ((with_reducible show wpAny _ _ (call (Value.builtin "list.__getattribute__") _ _) _ _ _); refine wpAny_call (codeAny_call_builtin F.slot_list_getattribute.plain F.entry_list_ga (F.slot_list_getattribute.check _ _ _ _ _ _ _ _ (hT _) (F.args_list_getattribute_2 _ _) (ga_append hx ?_)))) | wp_step))
end
theorem tl_contains:typeLookup (.type "set") "__contains__" = pure (some (.builtin "set.__contains__")):=by rw [typeLookup_type,builtinLookup_eq_fast]; kernel_rfl
theorem ty_contains:typeOf (.builtin "set.__contains__") = pure (.type "method_descriptor"):=by kernel_rfl
theorem own_contains:(".".intercalate ("set.__contains__".cutAt '.').dropLast) = "set" := by
  have e0 : "set.__contains__".cutAt '.' = ["set", "__contains__"]:=by first | rfl | decide +kernel
  rw [e0]; decide +kernel
theorem sub_contains:isSubtype (.type "set") (.type (".".intercalate ("set.__contains__".cutAt '.').dropLast)) = pure true:=by
  rw [own_contains,isSubtype_type]; kernel_rfl
section
variable {prog:Program} {w:World} {A:Around} {E:Value→Shared→Prop} {h:Heap} {g:Array GenState} {d:Drawn} {t:Nat} {os:OsState} {a:Addr} {o:Obj}
theorem md_get_contains {R:Result→Shared→Prop} (hx:h.get? a = some o) (hc:o.cls = .type "set") (hq:R (.ok (.ret (.ref h.objs.size))) ⟨h.push (bndO "set.__contains__" (.ref a)),g,d,t,os⟩) :
    codeAny (model prog w) A (.call (.builtin "method_descriptor.__get__") ⟨[.builtin "set.__contains__", .ref a,.type "set"],[]⟩) R ⟨h,g,d,t,os⟩:=by
  have hT:(⟨h,g,d,t,os⟩:Shared).TypeIs (.ref a) "set" := ⟨_,hx,hc⟩
  have hT5:(⟨h,g,d,t,os⟩:Shared).TypeIs (.builtin "set.__contains__") "method_descriptor" := ty_contains
  have f8:=sub_contains
  have ht:Manifest.toldItsClass.contains "set.__contains__" = true ∨ Manifest.toldItsClass.contains "set.__contains__" = false:=by cases Manifest.toldItsClass.contains "set.__contains__" <;> simp
  refine codeAny_call_builtin slot_md_get.plain entry_md_get (slot_md_get.check _ _ _ _ _ _ _ _ hT5 (args_md_get _ _ _) ?_)
  repeat (any_goals (first | assumption | wp_step))
theorem ga_contains {u:Tok} {Q:Fin→Shared→Prop} {es:Array (Int × Value)} {k:Nat} {tb:SetTable} (hx:h.get? a = some { cls:=.type "set", data:=.set es k tb }) (hq:Q (.done (.ret (.ref h.objs.size))) ⟨h.push (bndO "set.__contains__" (.ref a)),g,d,t,os⟩) :
    wpAny (model prog w) A (Builtin.«object.__getattribute__» ⟨[.ref a,.str "__contains__" u],[]⟩) Q E ⟨h,g,d,t,os⟩:=by
  have hT:(⟨h,g,d,t,os⟩:Shared).TypeIs (.ref a) "set" := ⟨_,hx,rfl⟩
  have f4:=tl_contains
  have f5:=ty_contains
  have f6:=slot_md_get.lookup
  have f7:=tl_md_set
  have f8:=tl_md_del
  repeat (any_goals (first | assumption | wp_step))
  refine md_get_contains hx rfl ?_
  repeat (any_goals (first | assumption | wp_step))
theorem get_contains {es:Array (Int × Value)} {k:Nat} {tb:SetTable} {Q:Value→Shared→Prop} (hx:h.get? a = some { cls:=.type "set", data:=.set es k tb }) (hq:Q (.ref h.objs.size) ⟨h.push (bndO "set.__contains__" (.ref a)),g,d,t + 1,os⟩) :
    wpAny (model prog w) A (getAttr (.ref a) "__contains__" true) Q E ⟨h,g,d,t,os⟩:=by
  have hT:∀ tk',(⟨h,g,d,tk',os⟩:Shared).TypeIs (.ref a) "set" := fun _=>⟨_,hx,rfl⟩
  have f3:=F.slot_set_getattribute.lookup
  have f4:=F.slot_set_getattribute.bind (.ref a)
  unfold getAttr getAttrBy
  repeat (any_goals (first | assumption | exact hT _ | ((with_reducible show wpAny _ _ (call (Value.builtin "set.__getattribute__") _ _) _ _ _); refine wpAny_call (codeAny_call_builtin F.slot_set_getattribute.plain F.entry_set_ga (F.slot_set_getattribute.check _ _ _ _ _ _ _ _ (hT _) (F.args_set_getattribute_2 _ _) (ga_contains hx ?_)))) | wp_step))
end
theorem slot_filter_next:Slot "filter" "__next__" "filter.__next__" :=
  .of (owner := "filter") (n := "__next__") (by rw [typeLookup_type,builtinLookup_eq_fast]; kernel_rfl) (by decide +kernel) (by decide +kernel) (by decide +kernel)
    (by first | exact .inl (by decide +kernel) | exact .inr (by decide +kernel)) (by rw [isSubtype_type]; kernel_rfl)
theorem slot_filter_iter:Slot "filter" "__iter__" "filter.__iter__" :=
  .of (owner := "filter") (n := "__iter__") (by rw [typeLookup_type,builtinLookup_eq_fast]; kernel_rfl) (by decide +kernel) (by decide +kernel) (by decide +kernel)
    (by first | exact .inl (by decide +kernel) | exact .inr (by decide +kernel)) (by rw [isSubtype_type]; kernel_rfl)
theorem slot_filter_init:Slot "filter" "__init__" "object.__init__" :=
  .of (owner := "object") (n := "__init__") (by rw [typeLookup_type,builtinLookup_eq_fast]; kernel_rfl) (by decide +kernel) (by decide +kernel) (by decide +kernel)
    (by first | exact .inl (by decide +kernel) | exact .inr (by decide +kernel)) (by rw [isSubtype_type]; kernel_rfl)
theorem entry_filter_iter:entryFor table "filter.__iter__" = some Builtin.«dict_keyiterator.__iter__» :=
  entryFor_alias (id' := "dict_keyiterator.__iter__") (by kernel_rfl) (by first | rfl | decide +kernel) (by decide +kernel) (by kernel_rfl)
theorem entry_filter_next:entryFor table "filter.__next__" = some Builtin.«filter.__next__»:=entryFor_of_tree (by kernel_rfl)
theorem entry_filter_new:entryFor table "filter.__new__" = some Builtin.«filter.__new__»:=entryFor_of_tree (by kernel_rfl)
theorem args_filter_next (a:Value):argsOk "filter.__next__" ⟨[a],[]⟩:=by unfold argsOk; kernel_rfl
theorem args_filter_iter (a:Value):argsOk "filter.__iter__" ⟨[a],[]⟩:=by unfold argsOk; kernel_rfl
theorem mro_filter:mroOf (.type "filter") = pure [.type "filter", .type "object"]:=by rw [mroOf_type]; kernel_rfl
theorem lookup_filter_new:typeLookup (.type "filter") "__new__" = pure (some (.builtin "filter.__new__")):=by rw [typeLookup_type,builtinLookup_eq_fast]; kernel_rfl
theorem called_filter:TypeCalled "filter" "filter.__new__" "object.__init__" :=
  ⟨by decide +kernel,by decide +kernel,⟨_,_,mro_filter⟩,PySem.madeBy_type mro_filter lookup_filter_new (by decide +kernel),by decide +kernel,by rw [isSubtype_type]; kernel_rfl,slot_filter_init⟩
theorem typeCall_filter (a b:Value):checkTypeCall "filter" ⟨[a,b],[]⟩ = pure ():=by kernel_rfl
theorem newCall_filter (a b:Value):checkBuiltinCall "filter.__new__" ⟨[.type "filter", a,b],[]⟩ = pure ():=by kernel_rfl
theorem sub_filter:isSubtype (.type "filter") (.type "filter") = pure true:=by rw [isSubtype_type]; kernel_rfl
theorem filter_no_len:typeLookup (.type "filter") "__len__" = pure none:=by rw [typeLookup_type,builtinLookup_eq_fast]; kernel_rfl
theorem filter_no_hint:typeLookup (.type "filter") "__length_hint__" = pure none:=by rw [typeLookup_type,builtinLookup_eq_fast]; kernel_rfl
theorem plain_filter_next:plainId "filter.__next__" = true:=by decide +kernel
noncomputable def fltO (q it:Addr):Obj:={ cls:=.type "filter", data:=.fields #[.ref q,.ref it] }
open AutoSeq1 (wpAny_loadPart') in
theorem meets_filter_new (q l:Addr) (items:Array Value) (n:Nat) (dct:Option Addr) (sl:Array (Option Value)) :
    Meets (Builtin.«filter.__new__» ⟨[.type "filter", .ref q,.ref l],[]⟩) (fun _ R s=>s.heap.get? l = some { cls:=.type "list", dict:=dct,data:=.seq items n,slots:=sl } ∧
      R (.ok (.ret (.ref (s.heap.push { cls:=.type "list_iterator", data:=.fields #[.ref l,.int 0 0] }).objs.size)))
        { s with heap:=(s.heap.push { cls:=.type "list_iterator", data:=.fields #[.ref l,.int 0 0] }).push (fltO q s.heap.objs.size) }) :=
  .of_wp fun prog w A R s h=>by
    obtain ⟨hp,g,d,tk,os⟩:=s; obtain ⟨hl,h⟩:=h
    have hsub:=sub_filter
    have hL:Heap.IsList (Shared.heap ⟨hp,g,d,tk,os⟩) l items:=⟨_,hl,rfl,n,rfl⟩
    wp_walk using wpAny_loadPart' hl,wpAny_pyIter_list hL
    exact ⟨_,rfl,h⟩
section
variable {prog:Program} {w:World} {A:Around} {E:Value→Led→Prop} {C:Cx} {σ σ' τ:Led} {s:Shared} {a l q it F D:Addr} {xs:List Value} {zs:List Str} {P:Str→Bool} {n:Nat}
theorem T_getApp {Q:Value→Led→Prop} (hl:(l,.lst xs)∈σ) (h:∀ q,Q (.ref q) ((q,.raw (bndO "list.append" (.ref l)))::σ)):T prog w C A σ (getAttr (.ref l) (Str.ofString "append") true) Q E:=fun s S=>by
  obtain ⟨its,n,ho,he⟩:=S.lst hl
  exact get_append ho ⟨_,h _,S.push (p:=.raw (bndO "list.append" (.ref l))) rfl rfl (s.toks + 1)⟩
theorem T_getCon {Q:Value→Led→Prop} (hl:(a,stp prog w P n)∈σ) (h:∀ q,Q (.ref q) ((q,.raw (bndO "set.__contains__" (.ref a)))::σ)):T prog w C A σ (getAttr (.ref a) "__contains__" true) Q E:=fun s S=>by
  obtain ⟨o,ho,hex,es,ep,tb,hd,_⟩:=S.get hl
  have e:o = { cls:=.type "set", data:=.set es ep tb }:=by
    obtain ⟨c,dct,dat,sl⟩:=o
    obtain ⟨h1,h2,h3⟩:=hex
    simp only at h1 h2 h3 hd
    subst h1 h2 h3 hd; rfl
  exact get_contains (e ▸ ho) ⟨_,h _,S.push (p:=.raw (bndO "set.__contains__" (.ref a))) rfl rfl (s.toks + 1)⟩
theorem T_filter {Q:Value→Led→Prop} (hl:(l,.lst xs)∈σ) (h:∀ F it,Q (.ref F) ((F,.raw (fltO q it))::(it,itr l 0)::σ)):T prog w C A σ (call (.type "filter") [.ref q,.ref l]) Q E:=fun s S=>by
  obtain ⟨its,n,ho,he⟩:=S.lst hl
  refine callType_new called_filter (by decide) (typeCall_filter _ _) (newCall_filter _ _) (fun obj=>F.args_object_init_3 obj _ _) entry_filter_new (meets_filter_new q l its n none #[]) ⟨ho,?_⟩
  have S₁:=S.push (p:=itr l 0) (o:={ cls:=.type "list_iterator", data:=.fields #[.ref l,.int 0 0] }) ⟨rfl,rfl⟩ rfl s.toks
  have S₂:=S₁.push (p:=.raw (fltO q s.heap.objs.size)) (o:=fltO q s.heap.objs.size) rfl rfl s.toks
  exact ⟨⟨_,Heap.get?_push_size _ rfl,rfl⟩,_,h _ _,S₂⟩
theorem csp_end {E:Value→Shared→Prop} {i:Nat} {items:Array Value} {Q:Option Value→Shared→Prop} (hh:A.handled = none) (hit:s.heap.IsListIter it l i) (hl:s.heap.IsList l items) (hx:items[i]? = none)
    (hE:∀ h' e,Heap.ExtBut it s.heap h'→(∃ o,h'.get? e = some o∧o.cls = .type "StopIteration")→E (.ref e) { s with heap:=h' }) :
    wpAny (model prog w) A (callSpecial? (.ref it) (Str.ofString "__next__")) Q E s:=by
  obtain ⟨o,ho,hc,hd⟩:=id hit
  obtain ⟨ol,hol,_,nl,hdl⟩:=hl
  refine wpAny_callSpecial?_slot (name:=Str.ofString "__next__") hit.typeIs slot_listiter_next (wpAny_call_entry slot_listiter_next hit.typeIs entry_listiter_next ?_ (args_listiter_next _))
  show wpAny _ _ (field (.ref it) 0 >>= _) _ _ s
  refine wpAny_bind (wpAny_field ho hd (x:=.ref l) rfl ?_)
  show wpAny _ _ (if (Value.ref l == Value.none) = true then _ else _) _ _ s
  rw [if_neg (show ¬ ((Value.ref l == Value.none) = true) from Bool.false_ne_true)]
  show wpAny _ _ (field (.ref it) 1 >>= _) _ _ s
  refine wpAny_bind (wpAny_field ho hd (x:=.int i 0) rfl ?_)
  show wpAny _ _ (seqItems? (.ref l) >>= _) _ _ s
  refine wpAny_bind (wpAny_seqItems hol hdl ?_)
  simp only [Int.toNat_natCast,hx]
  refine wpAny_bind (wpAny_rule (wpAny_bind (wpAny_setField ho hd (by simp) ?_)))
  show wpAny _ _ (newExc (.type "StopIteration") [] >>= _) _ _ _
  refine wpAny_bind ?_
  simp only [newExc,newTuple]
  refine wpAny_bind (wpAny_newObj_type ?_ (by size_fits))
  refine wpAny_bind (m:=firstArgMember _ _) (wpAny_of_eq (a:=Value.none) (by first | rfl | (simp only [firstArgMember]; rfl)) ?_)
  refine wpAny_newObj_type ?_ (by size_fits)
  show wpAny _ _ (handled >>= _) _ _ _
  refine wpAny_bind (wpAny_handled ?_)
  rw [show A.in1.handled = none from hh]
  refine wpAny_bind (wpAny_pure (wpAny_throw ?_))
  exact hE _ _ (((Heap.SameBut.update ..).extBut.push _).push _) ⟨_,Heap.get?_push_size _ rfl,rfl⟩
theorem flt_code {R:Result→Shared→Prop} (hh:A.handled = none) (hl:(l,.lst [])∈τ) (S:Sat C ((F,.raw (fltO q it))::(it,itr l 0)::τ) s)
    (h0:∀ s' e,Sat C ((F,.raw (fltO q it))::τ) s'→(∃ o,s'.heap.get? e = some o∧o.cls = .type "StopIteration")→R (.error (.ref e)) s') :
    codeAny (model prog w) A (.builtin "filter.__next__" ⟨[.ref F],[]⟩) R s:=by
  refine codeAny_builtin entry_filter_next ?_
  rw [Around.under_plainId plain_filter_next _]
  obtain ⟨of,hof,hp⟩:=S.get (.head _)
  have hp:of = _:=hp
  subst hp
  obtain ⟨oi,hoi,hci,hdi⟩:=S.get (.tail _ (.head _))
  obtain ⟨its,hL,he⟩:=S.isList (.tail _ (.tail _ hl))
  have hlen:its.size = 0:=by have:=congrArg List.length he; rw [List.length_map,Array.length_toList] at this; exact this
  show wpAny _ A.in1 (field (.ref F) 0 >>= fun func=>field (.ref F) 1 >>= _) _ _ s
  refine wpAny_bind (wpAny_field hof rfl (x:=.ref q) rfl ?_)
  refine wpAny_bind (wpAny_field hof rfl (x:=.ref it) rfl ?_)
  refine wpAny_bind (csp_end hh ⟨oi,hoi,hci,hdi⟩ hL (by rw [Array.getElem?_eq_none_iff]; wtm_at "om") fun h' e hx hex=>?_)
  exact h0 _ e ((S.perm (List.Perm.swap _ _ _)).ext hx s.toks) hex
theorem flt_next {E:Value→Shared→Prop} {Q:Option Value→Shared→Prop} (hh:A.handled = none) (hl:(l,.lst [])∈τ)
    (S:Sat C ((F,.raw (fltO q it))::(it,itr l 0)::τ) s) (h0:∀ s',Sat C ((F,.raw (fltO q it))::τ) s'→Q none s'):wpAny (model prog w) A (pyNext (.ref F)) Q E s:=by
  obtain ⟨of,hof,hp⟩:=S.get (.head _)
  have hp:of = _:=hp
  subst hp
  have hT:s.TypeIs (.ref F) "filter" := ⟨_,hof,rfl⟩
  unfold pyNext
  refine wpAny_bind (wpAny_attempt (wpAny_callSpecial?_slot (name:=Str.ofString "__next__") hT slot_filter_next (wpAny_call (codeAny_call_builtin_code (plainId_quiet plain_filter_next _)
    (slot_filter_next.check _ _ _ _ _ _ _ _ hT (args_filter_next _) (flt_code hh hl S fun s' e S' hx=>?_))))))
  obtain ⟨o,ho,hc⟩:=hx
  refine wpAny_bind (wpAny_isInstance (T := "StopIteration") (b:=true) ⟨o,ho,hc⟩ isSubtype_stop ?_)
  exact wpAny_pure (h0 s' S')
theorem flt_loop {R:Result→Shared→Prop} {res:Value} (hh:A.handled = none) (hl:(l,.lst [])∈τ) (S:Sat C ((F,.raw (fltO q it))::(it,itr l 0)::(D,.lst [])::τ) s)
    (h:∀ s',Sat C ((D,.lst [])::τ) s'→R (.ok (.ret res)) s'):codeAny (model prog w) A (.builtin "list.extend.loop" ⟨[.ref D,.ref F,res],[]⟩) R s:=by
  refine codeAny_builtin PySem.F.entry_extend_loop ?_
  rw [Around.under_plainId PySem.F.plain_extend_loop _]
  show wpAny _ A.in1 (pyNext (.ref F) >>= _) _ _ s
  refine wpAny_bind (flt_next (A:=A.in1) hh (.tail _ hl) S fun s' S'=>?_)
  exact wpAny_pure (h s' (S'.sub (List.sublist_cons_self _ _)))
theorem T_listF {Q:Value→Led→Prop} (hh:A.handled = none) (hl:(l,.lst [])∈τ)
    (h:∀ D,Q (.ref D) ((D,.lst [])::τ)):T prog w C A ((F,.raw (fltO q it))::(it,itr l 0)::τ) (call (.type "list") [.ref F]) Q E:=by
  intro s S
  refine callType_codes (Q₁:=fun obj s₁=>obj = .ref s.heap.objs.size∧s₁ = { s with heap:=s.heap.push { cls:=.type "list", data:=.seq #[] } }) PySem.F.called_list (PySem.F.typeCall_list_1 _) PySem.F.entry_list_init
    (code_list_new _ ⟨rfl,rfl⟩) fun obj s₁ h₁=>?_
  obtain ⟨rfl,rfl⟩:=h₁
  have S₁:=S.push (p:=.lst []) (o:={ cls:=.type "list", data:=.seq ([]:List Value).toArray }) (lst_of rfl) rfl s.toks
  generalize hD:s.heap.objs.size = D at S₁ ⊢
  have S₂:Sat C ((F,.raw (fltO q it))::(it,itr l 0)::(D,.lst [])::τ) { s with heap:=s.heap.push { cls:=.type "list", data:=.seq #[] } }:=S₁.perm ((List.Perm.swap _ _ _).trans (List.Perm.cons _ (List.Perm.swap _ _ _)))
  have hS:(s.heap.push { cls:=.type "list", data:=.seq #[] }).get? D = some { cls:=.type "list", data:=.seq #[] }:=by rw [← hD]; exact Heap.get?_push_size _ rfl
  refine ⟨⟨_,hS,rfl⟩,PySem.F.args_list_init_2 _ _,?_⟩
  generalize hs₁:({ s with heap:=s.heap.push { cls:=.type "list", data:=.seq #[] } }:Shared) = s₁ at S₂ ⊢
  have hS:s₁.heap.get? D = some { cls:=.type "list", data:=.seq #[] }:=by rw [← hs₁]; exact hS
  show wpAny _ A.in1.in1 (do let old ← Builtin.List.listItems (.ref D); Builtin.List.listUpdate (.ref D) (fun _=>#[]); letGo old.toList.reverse; Builtin.List.listExtendWith (.ref D) (.ref F) .none) _ _ s₁
  refine wpAny_bind ?_
  unfold Builtin.List.listItems
  refine wpAny_bind (wpAny_seqItems hS rfl (wpAny_pure ?_))
  show wpAny _ A.in1.in1 (updateSeq D (fun _=>#[]) >>= fun _=>letGo (#[]:Array Value).toList.reverse >>= fun _=>Builtin.List.listExtendWith (.ref D) (.ref F) .none) _ _ s₁
  refine wpAny_bind (wpAny_updateSeq hS rfl ?_)
  have hS₂:=Heap.get?_update_self (Obj.mapSeq (fun _=>(#[]:Array Value))) hS rfl
  have S₃:=S₂.set (.tail (.tail (.head (p':=.lst [])))) (Heap.SameBut.update ..) hS₂ ⟨_,_,rfl,rfl⟩ s₁.toks
  refine wpAny_bind (wpAny_letGo ?_)
  generalize hs₃:({ s₁ with heap:=s₁.heap.update D (Obj.mapSeq (fun _=>(#[]:Array Value))) }:Shared) = s₃ at S₃ ⊢
  obtain ⟨of,hof,hp⟩:=S₃.get (.head _)
  have hp:of = _:=hp
  subst hp
  have hT:s₃.TypeIs (.ref F) "filter" := ⟨_,hof,rfl⟩
  have hDF:D ≠ F:=fun e=>by
    have nd:=S₃.nd
    rw [List.map_cons,List.nodup_cons] at nd
    exact nd.1 (by rw [← e]; exact .tail _ (.head _))
  unfold Builtin.List.listExtendWith
  refine wpAny_bind (wpAny_typeOf hT ?_)
  have h1:Builtin.List.listSameRef (.ref D) (.ref F) = false:=by simp [Builtin.List.listSameRef,hDF]
  have h2:(Value.type "filter" == Value.type "list") = false:=by decide
  have h3:(Value.type "filter" == Value.type "tuple") = false:=by decide
  rw [h1,h2,h3,if_neg (show ¬ (false || false || false) = true from Bool.false_ne_true)]
  refine wpAny_bind (wpAny_pyIter_slot hT slot_filter_iter (wpAny_call_entry slot_filter_iter hT entry_filter_iter ?_ (args_filter_iter _)))
  show wpAny _ _ (ret (.ref F)) _ _ s₃
  refine wpAny_pure ⟨_,rfl, "filter", _,hT,slot_filter_next.lookup,?_⟩
  refine wpAny_bind (wpAny_holding ?_)
  unfold Builtin.List.listLengthHint
  refine wpAny_bind (wpAny_specialOf hT filter_no_len ?_)
  show wpAny _ _ (specialOf (Value.ref F) (Str.ofString "__length_hint__") >>= _) _ _ _
  refine wpAny_bind (wpAny_specialOf hT filter_no_hint ?_)
  refine wpAny_pure ?_
  show wpAny _ _ (rule "list.extend.makes-room" >>= fun _=>Builtin.List.listTouch (.ref D) >>= fun _=>again (.builtin "list.extend.loop" ⟨[.ref D,.ref F,.none],[]⟩)) _ _ _
  refine wpAny_bind (wpAny_rule ?_)
  refine wpAny_bind ?_
  obtain ⟨its,nn,hoD,he⟩:=S₃.lst (.tail _ (.tail _ (.head _)))
  have hits:its = #[]:=Array.eq_empty_of_size_eq_zero (lst_len he)
  subst hits
  show wpAny _ _ (updateSeq D (·.push .none) >>= fun _=>updateSeq D (·.pop)) _ _ _
  refine wpAny_bind (wpAny_updateSeq hoD rfl ?_)
  have hS₂:=Heap.get?_update_self (Obj.mapSeq (·.push Value.none)) hoD rfl
  refine wpAny_updateSeq hS₂ rfl ?_
  have hS₄:=Heap.get?_update_self (Obj.mapSeq (·.pop)) hS₂ rfl
  have S₄:=S₃.set (.tail (.tail (.head (p':=.lst [])))) ((Heap.SameBut.update _ D _).trans (Heap.SameBut.update _ D _)) hS₄ ⟨_,_,rfl,rfl⟩ s₃.toks
  refine wpAny_pure ⟨plainId_quiet PySem.F.plain_extend_loop _,flt_loop (A:=A.in1) hh hl S₄ fun s' S'=>?_⟩
  exact ⟨rfl,_,h D,S'⟩
end
section
variable {prog:Program} {w:World} {C:Cx} {A:Around} {σ ρ:Led} {E:Value→Led→Prop} {Q:Value→Led→Prop} {t u:Tok} {zs hs:List Str} {x1 d1 u1 r1 x2 d2 u2 r2:Addr} {xs ys:List Value}
theorem T_newI {Cc fI:Addr} {rest:List Value} {kw:List (Str × Value)} (hm:makesIn C.K Cc = true) (hi:findIn C.K (.ref Cc) "__init__" = some (some (.ref fI))) (hf:typeIn C.K (.ref fI) = some (.type "function"))
    (h:∀ x d,TC prog w C (A.under (.builtin "type.__call__" ⟨.ref Cc::rest,kw⟩)) ((x,.ins Cc d)::(d,.idc [])::σ) (.call (.ref fI) ⟨.ref x::rest,kw⟩) (fun r σ'=>r = .ok (.ret .none)∧Q (.ref x) σ')):T prog w C A σ (call (.ref Cc) rest kw) Q E:=fun s S =>
  newI S hm hi hf fun x d s₁ S₁=>codeAny_mono (h x d s₁ S₁) fun _ _ ⟨σ',⟨h1,h2⟩,S'⟩=>⟨h1,σ',h2,S'⟩
theorem T_newEntry (hK:C.K = KK w.params) (R:Rm 3 A) (hQ:∀ x d u r,Q (.ref x) ((r,.lst [])::(u,.lst [])::(x,.ins 76 d)::(d,.idc (entryF u r))::σ)):T prog w C A σ (call (.ref 76) []) Q E:=by
  refine T_newI (fI:=52) (by wtm_at "r_k") (by wtm_at "r_k") (by wtm_at "r_k") fun x d=>?_
  refine' T_callFC (m:=[(Str.ofString "self", .ref x)]) [(Str.ofString "self", .ref x)] (Rm.room (Rm.under R)) (ho:=?ho) (hcd:=?hcd) (hbind:=?hb) (hloc:=?hloc) (hm:=?hm) (h:=?h) (hco:=?hco) (hgen:=?hgen) (hk:=?hk) (hcell:=?hcell)
  case ho=>rw [hK]; exact lookup_KK rfl rfl
  case hcd=>wtm_at "r_k"
  case hb=>exact fun s X=>kp_binds (K:=KK w.params) (hK ▸ X) fun S=>by kernel_rfl
  case hloc=>kernel_rfl
  case hm=>exact rfl
  case hco=>rfl
  case hgen=>rfl
  case hk=>rfl
  case hcell=>decide
  intro L
  wtm_at "t_go"
  repeat (wtm_at "t_setN"; wtm_at "t_go")
  exact ⟨_,.cons_cons _ (.cons_cons _ (.cons _ (List.Sublist.refl _))),rfl,hQ x d _ _⟩
theorem T_setOf {l:Addr} {xs:List Str} (hl:(l,.lst (txts xs))∈σ) (hz:xs.length + 1 < 4096) (hh:A.handled = none) (h:∀ a n,n≤xs.length→Q (.ref a) ((a,stp prog w (fun y=>xs.any fun z=>decide (y = z)) n)::σ)):T prog w C A σ (call (.type "set") [.ref l]) Q E :=
  fun _ S=>setOfL S hl hz hh fun a n _ hn S'=>⟨_,h a n hn,S'⟩
theorem T_merge (hK:C.K = KK w.params) (R:Rm 6 A) (h1:(x1,.ins 76 d1)∈σ) (h2:(d1,.idc (entryF u1 r1))∈σ) (h3:(u1,.lst [])∈σ) (h4:(r1,.lst xs)∈σ)
    (g1:(x2,.ins 76 d2)∈σ) (g2:(d2,.idc (entryF u2 r2))∈σ) (g3:(u2,.lst (txts hs))∈σ) (g4:(r2,.lst ys)∈σ) (hxy:xs.length + ys.length≤1000) (hhs:hs.length≤1000)
    (hQ:∀ x d r fs,fs.lookup (Str.ofString "rulelines") = some (.ref r)→fs.lookup (Str.ofString "allowance") = none→Q (.ref x) ((r,.lst (xs ++ ys))::(x,.ins 76 d)::(d,.idc fs)::σ)) :
    T prog w C A σ (call (.ref 87) [.ref x1,.ref x2]) Q E:=by
  refine' T_callF (m:=[(Str.ofString "e2", .ref x2),(Str.ofString "e1", .ref x1)]) [(Str.ofString "e1", .ref x1),(Str.ofString "e2", .ref x2)] R.room (ho:=?ho) (hcd:=?hcd) (hbind:=?hb) (hloc:=?hloc) (hm:=?hm) (h:=?h) (hco:=?hco) (hgen:=?hgen) (hk:=?hk) (hcell:=?hcell)
  case ho=>rw [hK]; exact lookup_KK rfl rfl
  case hcd=>wtm_at "r_k"
  case hb=>exact fun s X=>kp_binds (K:=KK w.params) (hK ▸ X) fun S=>by kernel_rfl!
  case hloc=>kernel_rfl
  case hm=>exact rfl
  case hco=>rfl
  case hgen=>rfl
  case hk=>rfl
  case hcell=>decide
  intro L
  wtm_at "t_go"
  refine T_newEntry hK ((R.deeper _).le (by wtm_at "om")) fun x d u r=>?_
  wtm_at "t_go"
  refine T_setOf (by wtm_at "r_mem") (by wtm_at "om") R.hand fun a n hn=>?_
  wtm_at "t_go"
  refine T_getCon (by wtm_at "r_mem") fun q=>?_
  wtm_at "t_go"
  refine T_filter (by wtm_at "r_mem") fun F it=>?_
  wtm_at "t_go"
  refine T_listF (q:=q) R.hand (by wtm_at "r_mem") fun D=>?_
  wtm_at "t_go"
  refine T_addL (by wtm_at "r_mem") (by wtm_at "r_mem") (by wtm_at "om") fun D2=>?_
  wtm_at "t_go"
  refine ⟨_,?_,hQ x d D2 (repl (Str.ofString "req_rate") Value.none (repl (Str.ofString "delay") Value.none (repl (Str.ofString "rulelines") (Value.ref D2) (repl (Str.ofString "useragents") (Value.ref D) (entryF u r))))) (by kernel_rfl!) (by kernel_rfl!)⟩
  exact .cons_cons _ (.cons _ (.cons _ (.cons _ (.cons _ (.cons _ (.cons_cons _ (.cons_cons _ (.cons _ (List.Sublist.refl _)))))))))
end
noncomputable def intL (xs:List Int):List Value:=xs.map fun i=>.int i 0
theorem ints_of {its:List Value} {xs:List Int} (h:its.map er = intL xs):∃ ps:List (Int × Tok),its = ps.map (fun p=>Value.int p.1 p.2)∧ps.map (·.1) = xs:=by
  induction its generalizing xs with
  | nil=>cases xs with
    | nil=>exact ⟨[],rfl,rfl⟩
    | cons x xs=>cases h
  | cons v its ih =>
    cases xs with
    | nil=>cases h
    | cons x xs =>
      rw [List.map_cons] at h
      injection h with h1 h2
      obtain ⟨ps,rfl,h3⟩:=ih h2
      cases v with
      | int i t=>cases h1; exact ⟨(x,t)::ps,rfl,by rw [List.map_cons,h3]⟩
      | _=>cases h1
section
variable {prog:Program} {w:World} {C:Cx} {A:Around} {σ τ:Led} {s:Shared} {E:Value→Led→Prop} {env:Env} {l:Addr} {xs:List Int}
theorem T_sum {Q:Value→Led→Prop} (hh:A.handled = none) (hl:(l,.lst (intL xs))∈σ) (h:∀ t,Q (.int xs.sum t) σ):T prog w C A σ (call (.builtin "sum") [.ref l]) Q E:=fun s S=>by
  obtain ⟨its,hL,he⟩:=S.isList hl
  obtain ⟨ps,e1,e2⟩:=ints_of he
  have e3:its = intItems ps.toArray:=by
    apply Array.ext'
    rw [e1]; simp [intItems]
  subst e3
  refine withTk (sum_intListG hh hL fun h' tk t' hk htk=>?_) S.tk
  rw [preSum_eq,List.take_of_length_le (by simp)]
  have e4:(ps.toArray.toList.map (·.1)).sum = xs.sum:=by rw [← e2]
  rw [e4]
  exact ⟨_,h t',(S.grown hk).tok tk htk⟩
noncomputable def enm (it:Addr) (i:Nat):PO:=.prd fun o=>∃ old,o = { cls:=.type "enumerate", dict:=none,data:=.fields #[.none,.bool false,.ref it,rawInt i,.none,old],slots:=#[] }
theorem T_enum {Q:Value→Led→Prop} {ys:List Value} (hl:(l,.lst ys)∈σ) (h:∀ e it,Q (.ref e) ((e,enm it 0)::(it,itr l 0)::σ)):T prog w C A σ (call (.type "enumerate") [.ref l]) Q E:=fun s S=>by
  obtain ⟨its,n,ho,he⟩:=S.lst hl
  refine callType_new PySem.F.called_enumerate (by decide) (PySem.F.typeCall_enumerate_1 _) (PySem.F.newCall_enumerate_1 _) (fun obj=>PySem.F.args_object_init_2 obj _) PySem.F.entry_enumerate_new (meets_enumerate_newL l its n none #[]) ⟨ho,?_⟩
  have S₁:=S.push (p:=itr l 0) (o:={ cls:=.type "list_iterator", data:=.fields #[.ref l,.int 0 0] }) ⟨rfl,rfl⟩ rfl s.toks
  have S₂:=S₁.push (p:=enm s.heap.objs.size 0) (o:={ cls:=.type "enumerate", data:=.fields #[.none,.bool false,.ref s.heap.objs.size,rawInt 0,.none,.none] }) ⟨_,rfl⟩ rfl s.toks
  exact ⟨⟨_,Heap.get?_push_size _ rfl,rfl⟩,_,h _ _,S₂⟩
theorem Sat.turn {e it:Addr} {p p' q q' r:PO} {oe oi oT:Obj} (S:Sat C ((e,p)::(it,q)::τ) s) {h':Heap} (hk:∀ b o,b ≠ e→b ≠ it→s.heap.get? b = some o→h'.get? b = some o)
    (he:h'.get? e = some oe) (hpe:p'.Of oe) (hi:h'.get? it = some oi) (hpi:q'.Of oi) (hT:h'.get? s.heap.objs.size = some oT) (hpT:r.Of oT) (t:Nat) (ht:0 < t:=by wtm_at "r_pos") :
    Sat C ((e,p')::(it,q')::(s.heap.objs.size,r)::τ) { s with heap:=h',toks:=t }:=by
  have nd:=S.nd
  have le:=S.low _ (.head _)
  have li:=S.low _ (.tail _ (.head _))
  have k:∀ b o,b < C.h₀.objs.size→s.heap.get? b = some o→h'.get? b = some o:=fun b o hb=>hk b o (fun x=>Nat.lt_irrefl _ (Nat.lt_of_lt_of_le (x ▸ hb) le)) (fun x=>Nat.lt_irrefl _ (Nat.lt_of_lt_of_le (x ▸ hb) li))
  rw [List.map_cons,List.map_cons,List.nodup_cons,List.nodup_cons] at nd
  obtain ⟨n1,n2,n3⟩:=nd
  have hlt:∀ x∈τ.map (·.1),x < s.heap.objs.size:=fun x hx=>by
    obtain ⟨q,hq,rfl⟩:=List.mem_map.mp hx
    exact S.lt (p:=q.2) (.tail _ (.tail _ hq))
  have helt:=S.lt (p:=p) (.head _)
  have hilt:=S.lt (p:=q) (.tail _ (.head _))
  refine ⟨OldK.lowK S.old k,?_,fun x hx=>?_,fun x hx=>?_,?_,S.os,S.gens,S.gl,ht,fun x hx=>(S.lam x hx).step (fun o e=>k _ o (C.lamlow x hx) e)
    (fun b o hb=>hk b o (fun x=>hb (by rw [List.map_cons,x]; exact .head _)) (fun x=>hb (by rw [List.map_cons,List.map_cons,x]; exact .tail _ (.head _)))) fun c hc hn hm=>?_⟩
  · obtain ⟨mc,⟨oc,es,ep,hc,_⟩,_⟩:=C.lim
    exact (k _ _ C.low (S.stat.trans hc)).trans hc.symm
  · rcases List.mem_cons.mp hx with rfl | hx
    · exact ⟨_,he,hpe⟩
    rcases List.mem_cons.mp hx with rfl | hx
    · exact ⟨_,hi,hpi⟩
    rcases List.mem_cons.mp hx with rfl | hx
    · exact ⟨_,hT,hpT⟩
    obtain ⟨y,hy,h⟩:=S.led x (.tail _ (.tail _ hx))
    have hm:=List.mem_map_of_mem (f:=(·.1)) hx
    exact ⟨y,hk _ _ (fun z=>n1 (.tail _ (z ▸ hm))) (fun z=>n2 (z ▸ hm)) hy,h⟩
  · rcases List.mem_cons.mp hx with rfl | hx
    · exact le
    rcases List.mem_cons.mp hx with rfl | hx
    · exact li
    rcases List.mem_cons.mp hx with rfl | hx
    · exact S.size
    exact S.low x (.tail _ (.tail _ hx))
  · rw [List.map_cons,List.map_cons,List.map_cons,List.nodup_cons,List.nodup_cons,List.nodup_cons]
    refine ⟨fun hm=>?_,fun hm=>?_,fun hm=>?_,n3⟩
    · rcases List.mem_cons.mp hm with h | hm
      · exact n1 (by rw [h]; exact .head _)
      rcases List.mem_cons.mp hm with h | hm
      · exact Nat.lt_irrefl _ (Nat.lt_of_lt_of_eq helt h.symm)
      · exact n1 (.tail _ hm)
    · rcases List.mem_cons.mp hm with h | hm
      · exact Nat.lt_irrefl _ (Nat.lt_of_lt_of_eq hilt h.symm)
      · exact n2 hm
    · exact Nat.lt_irrefl _ (hlt _ hm)
  · rw [List.map_cons,List.map_cons] at hn
    rw [List.map_cons,List.map_cons,List.map_cons] at hm
    rcases List.mem_cons.mp hm with h | hm
    · exact hn (by rw [h]; exact .head _)
    rcases List.mem_cons.mp hm with h | hm
    · exact hn (.tail _ (by rw [h]; exact .head _))
    rcases List.mem_cons.mp hm with h | hm
    · exact Nat.lt_irrefl _ (Nat.lt_of_lt_of_eq hc h.symm)
    exact hn (.tail _ (.tail _ hm))
theorem enum_next {e it:Addr} {i:Nat} {ys:List Value} {E:Value→Shared→Prop} {Q:Option Value→Shared→Prop} (hh:A.handled = none) (S:Sat C ((e,enm it i)::(it,itr l i)::τ) s) (hl:(l,.lst ys)∈τ)
    (h0:ys[i]? = none→∀ s',Sat C ((e,enm it i)::τ) s'→Q none s')
    (h1:∀ p T item s',ys[i]? = some p→Sat C ((e,.raw { cls:=.type "enumerate", dict:=none,data:=.fields #[rawInt (T:Addr),.bool false,.ref it,rawInt ((i:Int) + 1),.none,item],slots:=#[] })::(it,itr l (i + 1))::(T,.tup [.int i 0,p])::τ) s'→Q (some (.ref T)) s') :
    wpAny (model prog w) A (pyNext (.ref e)) Q E s:=by
  obtain ⟨oe,hoe,old,rfl⟩:=S.get (.head _)
  obtain ⟨oi,hoi,hci,hdi⟩:=S.get (.tail _ (.head _))
  obtain ⟨its,hL,he⟩:=S.isList (.tail _ (.tail _ hl))
  have hlen:=lst_len he
  cases hx:its[i]? with
  | none =>
    refine wpAny_pyNext_enum_end hh hoe ⟨oi,hoi,hci,hdi⟩ hL hx fun h' hx'=>h0 ?_ _ ((S.perm (List.Perm.swap _ _ _)).ext hx' s.toks)
    rw [List.getElem?_eq_none_iff,← hlen]; exact Array.getElem?_eq_none_iff.mp hx
  | some x =>
    have hne:e ≠ it:=fun z=>by
      have nd:=S.nd
      rw [List.map_cons,List.nodup_cons] at nd
      exact nd.1 (by rw [z]; exact .head _)
    have hp:ys[i]? = some (er x):=by rw [← he,List.getElem?_map,Array.getElem?_toList,hx]; rfl
    refine wpAny_pyNext_enum_item hoe ⟨oi,hoi,hci,hdi⟩ hL hx hne fun h' he' hit' hT' hz' hk=>h1 _ _ x _ hp ?_
    obtain ⟨oi',hoi',hci',hdi'⟩:=hit'
    exact S.turn (p':=.raw _) (q':=itr l (i + 1)) (r:=.tup [.int i 0,er x]) hk he' rfl hoi' ⟨hci',hdi'⟩ hT' ⟨_,_,rfl,rfl⟩ (s.toks + 1)
end
theorem pm3 {α:Type _} (a b c:α) (r:List α):(a::b::c::r).Perm (c::a::b::r):=(List.perm_append_comm (l₁:=[a,b]) (l₂:=[c])).append_right r
section
variable {prog:Program} {w:World} {C:Cx} {A:Around} {σ τ:Led} {s:Shared} {E:Value→Led→Prop} {env:Env} {elt target iter:Expr} {x y:Str} {px py:Pos} {ifs:List Expr} {gs:List Comprehension} {scope:Scope} {pos spos:Pos}
theorem T_LCuG (cl:List (Str × Addr)) {Q:Flow→Led→Prop}
    (hsw:swapsWith (.ListComp elt (⟨target,iter,ifs,0⟩::gs) scope pos) (some (.Name y py)) spos.line env = Pure.pure true) (hclos:closureFor scope env = Pure.pure cl) (hkind:scope.kind = .function) (hnames:∀ x∈scope.names,x.2 = .local→scope.names.lookup x.1 = some .local)
    (h:T prog w C A σ (eval iter env) (fun xv σ₁=>T prog w C A σ₁ (pyIter xv) (fun it σ₂=>CompT prog w C A σ₂ env (.ListComp elt (⟨target,iter,ifs,0⟩::gs) scope pos) scope cl (newList []) (some (assign (.Name y py) env)) (fun _=>Q .next) E it) E) E)
    (hs:∀ x,foldedSetIterable iter env x = Pure.pure x:=by intro _; rfl):T prog w C A σ (exec (.Assign [.Name y py] (.ListComp elt (⟨target,iter,ifs,0⟩::gs) scope pos) spos) env) Q E:=by
  rw [exec_Assign_Name_used _ _ _ _ hsw]
  refine T.bind (T.standAt (T.bind ?_))
  unfold evalThenUse
  refine T.bind (wpAny_comp_free (Q:=fun _ σ'=>T prog w C A σ' (Pure.pure ()) (fun _ σ'=>T prog w C A σ' (Pure.pure Flow.next) Q E) E) rfl hs hclos hkind hnames (h.mono (fun xv σ₁ h=>h.mono (fun it σ₂ h=>?_) fun _ _ e=>e) fun _ _ e=>e))
  intro s S
  refine wpAny_mono (h s S) (fun acc s₃ h=>wpAny_mono h (fun cenv s₄ h=>codeAny_mono h fun r s' h=>?_) fun _ _ e=>e) fun _ _ e=>e
  cases r with
  | error e=>exact h
  | ok f =>
    refine wpAny_mono h (fun _ s'' ⟨m,hn,hq⟩=>⟨m,hn,fun h' hs'=>?_⟩) fun _ _ e=>e
    obtain ⟨σ',hq,S'⟩:=hq h' hs'
    exact ⟨σ',T.pure (T.pure hq),S'⟩
end
noncomputable def slcO (a b c:Value):Obj:={ cls:=.type "slice", data:=.fields #[a,b,c] }
section
variable {prog:Program} {w:World} {C:Cx} {A:Around} {σ:Led} {E:Value→Led→Prop} {Q:Value→Led→Prop} {env:Env} {l D:Addr} {xs:List Value} {vl vu vs:Value}
theorem T_part0 (h:Q .none σ):T prog w C A σ (evalPart none env) Q E:=by rw [evalPart_none]; exact T.pure h
theorem T_part1 {e:Expr} (h:T prog w C A σ (eval e env) Q E):T prog w C A σ (evalPart (some e) env) Q E:=h
theorem T_slc {lower upper step:Option Expr} {p:Pos} (h:T prog w C A σ (evalPart lower env) (fun vl σ₁=>T prog w C A σ₁ (evalPart upper env) (fun vu σ₂=>T prog w C A σ₂ (evalPart step env) (fun vs σ₃=>∀ D,Q (.ref D) ((D,.raw (slcO vl vu vs))::σ₃)) E) E) E) :
    T prog w C A σ (eval (.Slice lower upper step p) env) Q E:=fun _ S =>
  wpAny_Slice (h.k S fun vl σ₁ _ h S=>h.k S fun vu σ₂ _ h S=>h.k S fun vs σ₃ s h S=>⟨_,h _,S.push (p:=.raw (slcO vl vu vs)) rfl rfl s.toks⟩)
theorem T_slcL {value slice:Expr} {ops:List Value} {lo hi st:Option Int} (hD:(D,.raw (slcO vl vu vs))∈σ) (hl:(l,.lst xs)∈σ) (hz:xs.length≤1000000) (pl:IsPart vl lo) (pu:IsPart vu hi) (ps:IsPart vs st) (h0:st ≠ some 0)
    (h:∀ D,Q (.ref D) ((D,.lst (pick xs lo hi st))::σ)) (hs:subscripted slice false (.ref l) (.ref D) = operate ops (getItem (.ref l) (.ref D)):=by with_unfolding_all rfl):T prog w C A σ (subscriptTail value slice (.ref l) (.ref D)) Q E:=fun s S=>by
  obtain ⟨items,hL,he⟩:=S.isList hl
  have hn:=lst_len he
  obtain ⟨o,ho,e⟩:=S.get hD
  have e:o = _:=e
  subst e
  refine tail_any hL.typeIs slot_list_getitem.lookup (wpAny_getItem_list_slice hL ⟨_,ho,rfl,rfl⟩ pl pu ps h0 ⟨_,h _,?_⟩ (by rw [sizeLine_eq]; wtm_at "om")) hs
  exact S.push (p:=.lst (pick xs lo hi st)) (o:={ cls:=.type "list", data:=.seq (slicePick items lo hi st) }) ⟨_,_,rfl,by rw [pick_er,he]⟩ rfl s.toks S.tk
theorem T_slcO {value slice:Expr} {ops:List Value} {lo hi st:Option Int} {its:Array Value} (hD:(D,.raw (slcO vl vu vs))∈σ) (hO:C.h₀.IsList l its) (hx:its.toList.map er = xs) (hz:xs.length≤1000000) (pl:IsPart vl lo) (pu:IsPart vu hi) (ps:IsPart vs st) (h0:st ≠ some 0)
    (h:∀ D,Q (.ref D) ((D,.lst (pick xs lo hi st))::σ)) (hs:subscripted slice false (.ref l) (.ref D) = operate ops (getItem (.ref l) (.ref D)):=by with_unfolding_all rfl):T prog w C A σ (subscriptTail value slice (.ref l) (.ref D)) Q E:=fun s S=>by
  have hL:s.heap.IsList l its:=by
    obtain ⟨o,ho,hc,hd⟩:=hO
    exact ⟨o,S.old.get_of_cls ho (by rw [hc]; simp),hc,hd⟩
  have hn:=lst_len hx
  obtain ⟨o,ho,e⟩:=S.get hD
  have e:o = _:=e
  subst e
  refine tail_any hL.typeIs slot_list_getitem.lookup (wpAny_getItem_list_slice hL ⟨_,ho,rfl,rfl⟩ pl pu ps h0 ⟨_,h _,?_⟩ (by rw [sizeLine_eq]; wtm_at "om")) hs
  exact S.push (p:=.lst (pick xs lo hi st)) (o:={ cls:=.type "list", data:=.seq (slicePick its lo hi st) }) ⟨_,_,rfl,by rw [pick_er,hx]⟩ rfl s.toks S.tk
theorem T_slcS {value slice:Expr} {ops:List Value} {x:Str} {t:Tok} {lo hi:Option (Int × Tok)} (hD:(D,.raw (slcO vl vu .none))∈σ) (hl:vl = partValue lo) (hu:vu = partValue hi) (hz:x.length≤1000000)
    (h:∀ t,Q (.str (Txt.slice x (lo.map (·.1)) (hi.map (·.1))) t) σ) (hs:subscripted slice false (.str x t) (.ref D) = operate ops (getItem (.str x t) (.ref D)):=by with_unfolding_all rfl):T prog w C A σ (subscriptTail value slice (.str x t) (.ref D)) Q E:=fun s S=>by
  obtain ⟨o,ho,e⟩:=S.get hD
  have e:o = _:=e
  subst e
  subst hl hu
  refine withTk (tail_any (typeIs_str s x t) PySem.F.slot_str_getitem.lookup (wpAny_getItem_str_slice (l:=lo) (u:=hi) (st:=none) ⟨_,ho,rfl,rfl⟩ rfl (post_val_or_str ⟨Nat.le_trans (Txt.slice_le x _ _) (by rw [sizeLine_eq]; wtm_at "om"),fun t' k hk=>⟨_,h t',S.tok k hk⟩⟩)) hs) S.tk
end
noncomputable def pickG {α:Type} (xs:List α) (lo hi st:Option Int):List α:=(sliceRange (sliceBounds lo hi st xs.length).1 (sliceBounds lo hi st xs.length).2.1 (sliceBounds lo hi st xs.length).2.2).filterMap (xs[·]?)
theorem pick_map {α:Type} (xs:List α) (g:α→Value) (lo hi st:Option Int):pick (xs.map g) lo hi st = (pickG xs lo hi st).map g:=by
  unfold pick slicePick pickG
  simp only [List.size_toArray,List.length_map,List.map_filterMap]
  congr 1
  funext i
  simp
section
variable {prog:Program} {w:World} {C:Cx} {A:Around} {σ τ:Led} {s:Shared} {E:Value→Led→Prop} {env:Env}
end
noncomputable def kout (lt:Nat→Nat→Bool) {α:Type}:KasT α→α
  | .ret a=>a
  | .ask i j k=>kout lt (k (lt i j))
theorem kout_bind {lt:Nat→Nat→Bool} {α β:Type} {f:α→KasT β}:∀ t:KasT α,kout lt (t.bind f) = kout lt (f (kout lt t))
  | .ret _=>rfl
  | .ask i j k=>kout_bind (k (lt i j))
structure SO (lt:Nat→Nat→Bool) (n:Nat):Prop where
  tr:∀ {i j k},i < n→j < n→k < n→lt i j = true→lt j k = true→lt i k = true
  as:∀ {i j},i < n→j < n→lt i j = true→lt j i = false
  tot:∀ {i j},i < n→j < n→i ≠ j→lt i j = true ∨ lt j i = true
noncomputable abbrev pt (p:Array Nat) (i:Nat):Nat:=p.getD i 0
structure Pm (n:Nat) (p:Array Nat):Prop where
  perm:p.Perm (List.range n).toArray
section
variable {lt:Nat→Nat→Bool} {n:Nat} {p:Array Nat}
theorem Pm.siz (h:Pm n p):p.size = n:=by have:=h.perm.size_eq; simpa using this
theorem pt_eq {i:Nat} (hi:i < p.size):pt p i = p[i]:=by simp [pt,Array.getD,hi]
theorem Pm.inn (h:Pm n p) {i:Nat} (hi:i < n):pt p i < n:=by
  have hs:=h.siz
  have hi':i < p.size:=hs ▸ hi
  rw [pt_eq hi']
  have : p[i]∈p.toList:=Array.getElem_mem_toList hi'
  exact List.mem_range.mp ((Array.perm_iff_toList_perm.mp h.perm).mem_iff.mp this)
theorem Pm.ne (h:Pm n p) {i j:Nat} (hi:i < n) (hj:j < n) (hij:i ≠ j):pt p i ≠ pt p j:=by
  have hs:=h.siz
  have hnd:p.toList.Nodup:=(Array.perm_iff_toList_perm.mp h.perm).nodup_iff.mpr List.nodup_range
  have hi':i < p.size:=hs ▸ hi
  have hj':j < p.size:=hs ▸ hj
  rw [pt_eq hi',pt_eq hj']
  intro e
  exact hij ((List.getElem_inj (h₀:=hi') (h₁:=hj') hnd).mp e)
noncomputable def Rsg (lt:Nat→Nat→Bool) (p:Array Nat) (m:Nat):Prop:=∀ i j,i < j→j < m→lt (pt p i) (pt p j) = true
noncomputable def Fll (lt:Nat→Nat→Bool) (p:Array Nat) (m:Nat):Prop:=∀ i j,i < j→j < m→lt (pt p j) (pt p i) = true
theorem up_succ (O:SO lt n) (P:Pm n p) {m:Nat} (h:Rsg lt p m) (h1:1≤m) (hm:m < n) (hc:lt (pt p (m - 1)) (pt p m) = true):Rsg lt p (m + 1):=by
  intro i j hij hj
  have h2:m - 1 < m:=Nat.sub_lt h1 (Nat.le_refl _)
  rcases Nat.lt_or_eq_of_le (Nat.le_of_lt_succ hj) with e | e
  · exact h i j hij e
  · subst e
    rcases Nat.lt_or_eq_of_le (Nat.le_pred_of_lt hij) with e | e
    · exact O.tr (P.inn (Nat.lt_trans hij hm)) (P.inn (Nat.lt_trans h2 hm)) (P.inn hm) (h i (j - 1) e h2) hc
    · subst e; exact hc
theorem dn_succ (O:SO lt n) (P:Pm n p) {m:Nat} (h:Fll lt p m) (h1:1≤m) (hm:m < n) (hc:lt (pt p m) (pt p (m - 1)) = true):Fll lt p (m + 1):=by
  intro i j hij hj
  have h2:m - 1 < m:=Nat.sub_lt h1 (Nat.le_refl _)
  rcases Nat.lt_or_eq_of_le (Nat.le_of_lt_succ hj) with e | e
  · exact h i j hij e
  · subst e
    rcases Nat.lt_or_eq_of_le (Nat.le_pred_of_lt hij) with e | e
    · exact O.tr (P.inn hm) (P.inn (Nat.lt_trans h2 hm)) (P.inn (Nat.lt_trans hij hm)) hc (h i (j - 1) e h2)
    · subst e; exact hc
theorem asc_e (f m:Nat):kout lt (kas_asc p (f + 1) m) = if lt (pt p m) (pt p (m - 1)) = true then m else kout lt (kas_asc p f (m + 1)):=by
  show kout lt (if lt (pt p m) (pt p (m - 1)) = true then KasT.ret m else kas_asc p f (m + 1)) = _
  split <;> rfl
theorem nxt (O:SO lt n) (P:Pm n p) {m:Nat} (h1:1≤m) (hm:m < n) (hc:¬ lt (pt p m) (pt p (m - 1)) = true):lt (pt p (m - 1)) (pt p m) = true :=
  have h2:m - 1 < m:=Nat.sub_lt h1 (Nat.le_refl _)
  have h3:m - 1 < n:=Nat.lt_trans h2 hm
  (O.tot (P.inn hm) (P.inn h3) (P.ne hm h3 (Nat.ne_of_gt h2))).resolve_left hc
noncomputable def Asc (lt:Nat→Nat→Bool) (p:Array Nat) (m e r:Nat):Prop:=Al4 (m≤r) (r≤e) (Rsg lt p r) (r < e→lt (pt p r) (pt p (r - 1)) = true)
theorem asc_ok (O:SO lt n) (P:Pm n p) (f:Nat):∀ m:Nat,Rsg lt p m→1≤m→m + f≤n→Asc lt p m (m + f) (kout lt (kas_asc p f m)):=by
  induction f with
  | zero=>exact fun m h h1 hm=>⟨Nat.le_refl _,Nat.le_refl _,h,fun q=>absurd q (Nat.lt_irrefl _)⟩
  | succ f ih =>
    intro m h h1 hm
    have hmn:m < n:=Nat.lt_of_lt_of_le (Nat.lt_add_of_pos_right (Nat.succ_pos f)) hm
    rw [asc_e,← Nat.add_assoc,Nat.add_right_comm]
    rw [← Nat.add_assoc,Nat.add_right_comm] at hm
    by_cases hc:lt (pt p m) (pt p (m - 1)) = true
    · rw [if_pos hc]
      exact ⟨Nat.le_refl _,Nat.le_trans (Nat.le_succ m) (Nat.le_add_right _ _),h,fun _=>hc⟩
    · rw [if_neg hc]
      obtain ⟨a1,a2,a3,a4⟩:=ih (m + 1) (up_succ O P h h1 hmn (nxt O P h1 hmn hc)) (Nat.succ_pos m) hm
      exact ⟨Nat.le_of_succ_le a1,a2,a3,a4⟩
theorem desc_e (f m:Nat):kout lt (kas_desc (f + 1) p m 0) = if lt (pt p m) (pt p (m - 1)) = true then kout lt (kas_desc f p (m + 1) 0) else if lt (pt p (m - 1)) (pt p m) = true then (p,m,0) else kout lt (kas_desc f p (m + 1) (0 + 1)):=by
  show kout lt (if lt (pt p m) (pt p (m - 1)) = true then (if 0 > 0 then kas_desc f (kas_rev p (m - (0 + 1)) m) (m + 1) 0 else kas_desc f p (m + 1) 0) else KasT.ask (pt p (m - 1)) (pt p m) fun d=>if d = true then KasT.ret (p,m,0) else kas_desc f p (m + 1) (0 + 1)) = _
  rw [if_neg (Nat.lt_irrefl 0)]
  split
  · rfl
  · show kout lt (if lt (pt p (m - 1)) (pt p m) = true then KasT.ret (p,m,0) else kas_desc f p (m + 1) (0 + 1)) = _
    split <;> rfl
noncomputable def Dsc (lt:Nat→Nat→Bool) (p:Array Nat) (m e:Nat) (r:Array Nat × Nat × Nat):Prop:=∃ m',Al4 (r = (p,m',0)) (m≤m') (m'≤e) (Fll lt p m')
theorem desc_ok (O:SO lt n) (P:Pm n p) (f:Nat):∀ m:Nat,Fll lt p m→1≤m→m + f≤n→Dsc lt p m (m + f) (kout lt (kas_desc f p m 0)):=by
  induction f with
  | zero=>exact fun m h h1 hm=>⟨m,rfl,Nat.le_refl _,Nat.le_refl _,h⟩
  | succ f ih =>
    intro m h h1 hm
    have hmn:m < n:=Nat.lt_of_lt_of_le (Nat.lt_add_of_pos_right (Nat.succ_pos f)) hm
    rw [desc_e,← Nat.add_assoc,Nat.add_right_comm]
    rw [← Nat.add_assoc,Nat.add_right_comm] at hm
    by_cases hc:lt (pt p m) (pt p (m - 1)) = true
    · rw [if_pos hc]
      obtain ⟨m',a1,a2,a3,a4⟩:=ih (m + 1) (dn_succ O P h h1 hmn hc) (Nat.succ_pos m) hm
      exact ⟨m',a1,Nat.le_of_succ_le a2,a3,a4⟩
    · rw [if_neg hc,if_pos (nxt O P h1 hmn hc)]
      exact ⟨m,rfl,Nat.le_refl _,Nat.le_trans (Nat.le_succ m) (Nat.le_add_right _ _),h⟩
theorem rev_pm (P:Pm n p) (i j:Nat):Pm n (kas_rev p i j):=⟨(mirror_perm _ _ _ _).trans P.perm⟩
theorem rev_pt {m i:Nat} (hm:m≤p.size):pt (kas_rev p 0 m) i = if i < m then pt p (m - 1 - i) else pt p i:=by
  have e:=getElem?_mirror_all (i:=0) hm i
  show (kas_rev p 0 m).getD i 0 = _
  unfold kas_rev pt
  rw [Array.getD_eq_getD_getElem?,e]
  by_cases h:i < m
  · rw [if_pos ⟨Nat.zero_le _,h⟩,if_pos h,Array.getD_eq_getD_getElem?,Nat.zero_add]
  · rw [if_neg fun q=>h q.2,if_neg h,Array.getD_eq_getD_getElem?]
theorem rev_up {m:Nat} (hm:m≤p.size) (h:Fll lt p m):Rsg lt (kas_rev p 0 m) m:=by
  intro i j hij hj
  have hi:=Nat.lt_trans hij hj
  rw [rev_pt hm,rev_pt hm,if_pos hi,if_pos hj]
  have hj':j≤m - 1:=Nat.le_pred_of_lt hj
  exact h _ _ (Nat.sub_lt_sub_left (Nat.lt_of_lt_of_le hij hj') hij) (Nat.lt_of_le_of_lt (Nat.sub_le _ _) (Nat.pred_lt_self (Nat.zero_lt_of_lt hi)))
noncomputable def Cnt (lt:Nat→Nat→Bool) (n:Nat) (r:Nat × Array Nat):Prop:=Al4 (1≤r.1) (r.1≤n) (Pm n r.2) (Rsg lt r.2 r.1)
theorem count_ok (O:SO lt n) (P:Pm n p) (h1:1≤n):Cnt lt n (kout lt (kas_count n p)):=by
  have hn1:1 + (n - 1) = n:=Nat.add_sub_cancel' h1
  obtain ⟨a1,a2,a3,a4⟩:=asc_ok O P (n - 1) 1 (fun i j hij hj=>absurd (Nat.lt_of_le_of_lt (Nat.succ_le_of_lt (Nat.zero_lt_of_lt hij)) hj) (Nat.lt_irrefl _)) (Nat.le_refl _) (Nat.le_of_eq hn1)
  rw [hn1] at a2 a4
  unfold kas_count
  rw [kout_bind]
  generalize kout lt (kas_asc p (n - 1) 1) = m at *
  by_cases e:(m == n) = true
  · rw [if_pos e]
    exact ⟨a1,a2,P,a3⟩
  · rw [if_neg e]
    have hmn:m < n:=Nat.lt_of_le_of_ne a2 fun q=>e (beq_iff_eq.mpr q)
    by_cases h2:m > 1
    · rw [if_pos h2]
      show Cnt lt n (kout lt (if lt (pt p 0) (pt p (m - 1)) = true then KasT.ret (m,p) else _))
      rw [if_pos (a3 0 (m - 1) (Nat.sub_pos_of_lt h2) (Nat.sub_lt a1 (Nat.le_refl _)))]
      exact ⟨a1,a2,P,a3⟩
    · rw [if_neg h2]
      have hm1:m = 1:=Nat.le_antisymm (Nat.le_of_not_lt h2) a1
      subst hm1
      have hd:Fll lt p 2:=fun i j hij hj=>by
        have e1:j = 1:=Nat.le_antisymm (Nat.le_of_lt_succ hj) (Nat.zero_lt_of_lt hij)
        subst e1
        have e2:i = 0:=Nat.lt_one_iff.mp hij
        subst e2
        exact a4 hmn
      have h22:2 + (n - 2) = n:=Nat.add_sub_cancel' hmn
      obtain ⟨m',b1,b2,b3,b4⟩:=desc_ok O P (n - 2) 2 hd (Nat.le_succ 1) (Nat.le_of_eq h22)
      rw [h22] at b3
      unfold kas_descPart
      rw [kout_bind]
      show Cnt lt n (kout lt (if (kout lt (kas_desc (n - 2) p 2 0)).2.2 > 0 then _ else kas_tail3 (kout lt (kas_desc (n - 2) p 2 0)).2.1 n (kout lt (kas_desc (n - 2) p 2 0)).1))
      rw [b1]
      rw [if_neg (show ¬ (p,m',0).2.2 > 0 from Nat.lt_irrefl 0)]
      show Cnt lt n (kout lt (kas_tail3 m' n p))
      unfold kas_tail3
      rw [kout_bind]
      have hs:=P.siz
      have b0:1≤m':=Nat.le_of_succ_le b2
      have hmm:m' + (n - m') = n:=Nat.add_sub_cancel' b3
      obtain ⟨c1,c2,c3,c4⟩:=asc_ok O (rev_pm P 0 m') (n - m') m' (rev_up (lt:=lt) (p:=p) (m:=m') (hs ▸ b3) b4) b0 (Nat.le_of_eq hmm)
      rw [hmm] at c2
      exact ⟨Nat.le_trans b0 c1,c2,rev_pm P 0 m',c3⟩
theorem mid {l r:Nat} (h:l < r):l≤(l + r) / 2∧(l + r) / 2 < r :=
  ⟨(Nat.le_div_iff_mul_le (Nat.succ_pos 1)).mpr (Nat.mul_two l ▸ Nat.add_le_add_left (Nat.le_of_lt h) l),(Nat.div_lt_iff_lt_mul (Nat.succ_pos 1)).mpr (Nat.mul_two r ▸ Nat.add_lt_add_right h r)⟩
theorem place_e (k f l r:Nat):kout lt (kas_place p k (f + 1) l r) = if l ≥ r then l else if lt (pt p k) (pt p ((l + r) / 2)) = true then kout lt (kas_place p k f l ((l + r) / 2)) else kout lt (kas_place p k f ((l + r) / 2 + 1) r):=by
  show kout lt (if l ≥ r then KasT.ret l else KasT.ask (pt p k) (pt p ((l + r) / 2)) fun c=>if c = true then kas_place p k f l ((l + r) / 2) else kas_place p k f ((l + r) / 2 + 1) r) = _
  split
  · rfl
  · show kout lt (if lt (pt p k) (pt p ((l + r) / 2)) = true then kas_place p k f l ((l + r) / 2) else kas_place p k f ((l + r) / 2 + 1) r) = _
    split <;> rfl
noncomputable def Plc (lt:Nat→Nat→Bool) (p:Array Nat) (k l r:Nat):Prop:=Al3 (r≤k) (∀ i,i < l→lt (pt p i) (pt p k) = true) (∀ i,r≤i→i < k→lt (pt p k) (pt p i) = true)
theorem place_ok (O:SO lt n) (P:Pm n p) {k:Nat} (hk:k < n) (hU:Rsg lt p k) (f:Nat):∀ l r:Nat,l≤r→r≤l + f→Plc lt p k l r→Plc lt p k (kout lt (kas_place p k f l r)) (kout lt (kas_place p k f l r)):=by
  induction f with
  | zero =>
    intro l r h1 h3 h
    have : l = r:=Nat.le_antisymm h1 h3
    subst this
    exact h
  | succ f ih =>
    intro l r h1 h3 h
    rw [place_e]
    by_cases hge:l ≥ r
    · rw [if_pos hge]
      have : l = r:=Nat.le_antisymm h1 hge
      subst this
      exact h
    · rw [if_neg hge]
      obtain ⟨h2,h4,h5⟩:=h
      obtain ⟨m1,m2⟩:=mid (Nat.lt_of_not_le hge)
      generalize (l + r) / 2 = m at *
      have hmk:m < k:=Nat.lt_of_lt_of_le m2 h2
      by_cases hc:lt (pt p k) (pt p m) = true
      · rw [if_pos hc]
        refine ih l m m1 (Nat.le_of_lt_succ (Nat.lt_of_lt_of_le m2 h3)) ⟨Nat.le_of_lt hmk,h4,fun i hi hik=>?_⟩
        rcases Nat.lt_or_eq_of_le hi with e | e
        · exact O.tr (P.inn hk) (P.inn (Nat.lt_trans hmk hk)) (P.inn (Nat.lt_trans hik hk)) hc (hU _ _ e hik)
        · subst e; exact hc
      · rw [if_neg hc]
        have hc':=(O.tot (P.inn hk) (P.inn (Nat.lt_trans hmk hk)) (P.ne hk (Nat.lt_trans hmk hk) (Nat.ne_of_gt hmk))).resolve_left hc
        refine ih (m + 1) r m2 (Nat.le_trans h3 (Nat.le_trans (Nat.le_of_eq (Nat.add_right_comm l f 1)) (Nat.add_le_add_right (Nat.succ_le_succ m1) f))) ⟨h2,fun i hi=>?_,h5⟩
        rcases Nat.lt_or_eq_of_le (Nat.le_of_lt_succ hi) with e | e
        · exact O.tr (P.inn (Nat.lt_trans (Nat.lt_trans e hmk) hk)) (P.inn (Nat.lt_trans hmk hk)) (P.inn hk) (hU _ _ e hmk) hc'
        · subst e; exact hc'
theorem bub_pt {k d i:Nat} (hk:k < p.size) (hd:d≤k):pt (bubble p k d) i = if i = k - d then pt p k else if k - d < i∧i≤k then pt p (i - 1) else pt p i:=by
  have e:=getElem?_bubble hk d hd i
  show (bubble p k d).getD i 0 = _
  unfold pt
  rw [Array.getD_eq_getD_getElem?,e,Array.getD_eq_getD_getElem?,Array.getD_eq_getD_getElem?,Array.getD_eq_getD_getElem?]
  by_cases h1:i = k - d
  · rw [if_pos h1,if_pos h1]
  · rw [if_neg h1,if_neg h1]
    by_cases h2:k - d < i∧i≤k
    · rw [if_pos h2,if_pos h2]
    · rw [if_neg h2,if_neg h2]
theorem bub_up {k l:Nat} (hk:k < p.size) (hl:Plc lt p k l l) (h:Rsg lt p k):Rsg lt (bubble p k (k - l)) (k + 1):=by
  obtain ⟨h1,h2,h3⟩:=hl
  have hb:∀ i,pt (bubble p k (k - l)) i = if i = l then pt p k else if l < i∧i≤k then pt p (i - 1) else pt p i:=fun i=>by
    have:=bub_pt (i:=i) hk (Nat.sub_le k l)
    rwa [Nat.sub_sub_self h1] at this
  have bl:pt (bubble p k (k - l)) l = pt p k:=(hb l).trans (if_pos rfl)
  have b1:∀ i,i < l→pt (bubble p k (k - l)) i = pt p i:=fun i hi=>(hb i).trans ((if_neg (Nat.ne_of_lt hi)).trans (if_neg fun q=>Nat.lt_asymm hi q.1))
  have b2:∀ i,l≤i→i < k→pt (bubble p k (k - l)) (i + 1) = pt p i:=fun i hi hik=>(hb _).trans ((if_neg (Nat.ne_of_gt (Nat.lt_succ_of_le hi))).trans (if_pos ⟨Nat.lt_succ_of_le hi,hik⟩))
  intro i j hij hj
  have hjk:=Nat.le_of_lt_succ hj
  rcases Nat.lt_trichotomy j l with e | e | e
  · rw [b1 i (Nat.lt_trans hij e),b1 j e]
    exact h i j hij (Nat.lt_of_lt_of_le e h1)
  · subst e
    rw [bl,b1 i hij]
    exact h2 i hij
  · cases j with
    | zero=>exact absurd e (Nat.not_lt_zero _)
    | succ j =>
      have hj1:=Nat.le_of_lt_succ e
      rw [b2 j hj1 hjk]
      rcases Nat.lt_trichotomy i l with e' | e' | e'
      · rw [b1 i e']
        exact h i j (Nat.lt_of_lt_of_le e' hj1) hjk
      · subst e'
        rw [bl]
        exact h3 j hj1 hjk
      · cases i with
        | zero=>exact absurd e' (Nat.not_lt_zero _)
        | succ i =>
          have hi1:=Nat.lt_of_succ_lt_succ hij
          rw [b2 i (Nat.le_of_lt_succ e') (Nat.lt_trans hi1 hjk)]
          exact h i j hi1 hjk
theorem bin_ok (O:SO lt n) (f:Nat):∀ (k:Nat) (p:Array Nat),Pm n p→Rsg lt p k→k + f = n→Pm n (kout lt (kas_bin f p k))∧Rsg lt (kout lt (kas_bin f p k)) n:=by
  induction f with
  | zero =>
    intro k p P h hk
    have : k = n:=hk
    subst this
    exact ⟨P,h⟩
  | succ f ih =>
    intro k p P h hk
    have hkn:k < n:=hk ▸ Nat.lt_add_of_pos_right (Nat.succ_pos f)
    rw [show kout lt (kas_bin (f + 1) p k) = kout lt (kas_bin f (bubble p k (k - kout lt (kas_place p k k 0 k))) (k + 1)) from kout_bind _]
    have hl:=place_ok O P hkn h k 0 k (Nat.zero_le _) (Nat.le_of_eq (Nat.zero_add k).symm) ⟨Nat.le_refl _,fun i hi=>absurd hi (Nat.not_lt_zero _),fun i h1 h2=>absurd h2 (Nat.not_lt_of_le h1)⟩
    exact ih (k + 1) _ ⟨(bubble_perm _ _ _).trans P.perm⟩ (bub_up (P.siz ▸ hkn) hl h) ((Nat.add_right_comm k 1 f).trans hk)
theorem sort_ok (O:SO lt n) (h1:1≤n):Pm n (kout lt (kas_sort n))∧Rsg lt (kout lt (kas_sort n)) n:=by
  have h:=count_ok O (p:=(List.range n).toArray) ⟨Array.Perm.refl _⟩ h1
  unfold kas_sort
  rw [kout_bind]
  generalize kout lt (kas_count n (List.range n).toArray) = r at h
  obtain ⟨a1,a2,a3,a4⟩:=h
  by_cases h:r.1 < n
  · rw [if_pos h,Nat.max_eq_left a1]
    exact bin_ok O _ _ _ a3 a4 (Nat.add_sub_cancel' a2)
  · rw [if_neg h]
    exact ⟨a3,Nat.le_antisymm a2 (Nat.le_of_not_lt h) ▸ a4⟩
end
noncomputable def KB (n:Nat) {α:Type} (P:α→Prop):KasT α→Prop
  | .ret a=>P a
  | .ask i j k=>i < n∧j < n∧∀ b,KB n P (k b)
theorem KB.bind {n:Nat} {α β:Type} {P:α→Prop} {R:β→Prop} {f:α→KasT β} (hf:∀ a,P a→KB n R (f a)):∀ t:KasT α,KB n P t→KB n R (t.bind f)
  | .ret a,h=>hf a h
  | .ask _ _ k,h=>⟨h.1,h.2.1,fun b=>KB.bind hf (k b) (h.2.2 b)⟩
theorem KB.ite {n:Nat} {α:Type} {P:α→Prop} {c:Prop} [Decidable c] {a b:KasT α} (h1:KB n P a) (h2:KB n P b):KB n P (if c then a else b):=by split <;> assumption
section
variable {n:Nat} {p:Array Nat}
theorem Pm.any (P:Pm n p) (h0:0 < n) (i:Nat):p.getD i 0 < n:=by
  by_cases h:i < n
  · exact P.inn h
  · have:=P.siz
    simp [Array.getD,show ¬ i < p.size by wtm_at "om", h0]
theorem kb_asc (P:Pm n p) (h0:0 < n):∀ f m,KB n (fun _=>True) (kas_asc p f m)
  | 0,_=>trivial
  | f + 1,m=>⟨P.any h0 _,P.any h0 _,fun _=>KB.ite trivial (kb_asc P h0 f (m + 1))⟩
theorem kb_desc (h0:0 < n):∀ f (p:Array Nat) m q,Pm n p→KB n (fun r=>Pm n r.1) (kas_desc f p m q)
  | 0,_,_,_,P=>P
  | f + 1,_,_,_,P=>⟨P.any h0 _,P.any h0 _,fun _=>KB.ite (KB.ite (kb_desc h0 f _ _ _ (rev_pm P _ _)) (kb_desc h0 f _ _ _ P)) ⟨P.any h0 _,P.any h0 _,fun _=>KB.ite P (kb_desc h0 f _ _ _ P)⟩⟩
theorem KB.ret {α:Type} {P:α→Prop} {a:α} (h:P a):KB n P (.ret a):=h
theorem kb_tail3 (P:Pm n p) (h0:0 < n) (a b:Nat):KB n (fun r=>Pm n r.2) (kas_tail3 a b p):=by
  unfold kas_tail3
  refine KB.bind (P:=fun _=>True) (fun m _=>?_) _ (kb_asc (rev_pm P _ _) h0 _ _)
  exact rev_pm P _ _
theorem kb_descPart (P:Pm n p) (h0:0 < n) (a b:Nat):KB n (fun r=>Pm n r.2) (kas_descPart a b p):=by
  unfold kas_descPart
  refine KB.bind (P:=fun r:Array Nat × Nat × Nat=>Pm n r.1) (fun r h=>?_) _ (kb_desc h0 _ _ _ _ P)
  exact KB.ite (kb_tail3 (rev_pm h _ _) h0 _ _) (kb_tail3 h h0 _ _)
theorem kb_count (P:Pm n p) (h0:0 < n) (b:Nat):KB n (fun r=>Pm n r.2) (kas_count b p):=by
  unfold kas_count
  refine KB.bind (P:=fun _=>True) (fun m _=>?_) _ (kb_asc P h0 _ _)
  refine KB.ite P (KB.ite ?_ (kb_descPart P h0 _ _))
  exact ⟨P.any h0 _,P.any h0 _,fun _=>KB.ite P (kb_descPart (rev_pm P _ _) h0 _ _)⟩
theorem kb_place (P:Pm n p) (h0:0 < n) (k:Nat):∀ f l r,KB n (fun _=>True) (kas_place p k f l r)
  | 0,_,_=>trivial
  | f + 1,_,_=>KB.ite trivial ⟨P.any h0 _,P.any h0 _,fun _=>KB.ite (kb_place P h0 k f _ _) (kb_place P h0 k f _ _)⟩
theorem kb_bin (h0:0 < n):∀ f (p:Array Nat) k,Pm n p→KB n (fun _=>True) (kas_bin f p k)
  | 0,_,_,_=>trivial
  | f + 1,_,_,P=>by
    unfold kas_bin
    refine KB.bind (P:=fun _=>True) (fun l _=>?_) _ (kb_place P h0 _ _ _ _)
    exact kb_bin h0 f _ _ ⟨(bubble_perm _ _ _).trans P.perm⟩
theorem kb_sort (h0:0 < n):KB n (fun _=>True) (kas_sort n):=by
  unfold kas_sort
  refine KB.bind (P:=fun r:Nat × Array Nat=>Pm n r.2) (fun r h=>?_) _ (kb_count ⟨Array.Perm.refl _⟩ h0 _)
  exact KB.ite (kb_bin h0 _ _ _ h) trivial
end
theorem kasWp_out {n:Nat} {lt:Nat→Nat→Bool} {I:Shared→Prop} {cmp:Nat→Nat→(Bool→Shared→Prop)→Shared→Prop} (hc:∀ i j C s,i < n→j < n→I s→(∀ s',I s'→C (lt i j) s')→cmp i j C s) {α:Type} {P:α→Prop} {Q:α→Shared→Prop} :
    ∀ (t:KasT α) (s:Shared),KB n P t→I s→(∀ s',I s'→Q (kout lt t) s')→t.kasWp cmp Q s
  | .ret _,s,_,hI,h=>h s hI
  | .ask i j k,s,hb,hI,h=>hc i j _ s hb.1 hb.2.1 hI fun s' hI'=>kasWp_out hc (k (lt i j)) s' (hb.2.2 _) hI' h
section
variable {prog:Program} {w:World} {C:Cx} {A:Around} {σ σ' τ:Led} {E:Value→Led→Prop} {s:Shared} {l:Addr} {lt:Nat→Nat→Bool} {ks vs xs:List Value} {κ:SortKind}
structure Srt (lt:Nat→Nat→Bool) (n:Nat) (p:List Nat):Prop where
  perm:p.Perm (List.range n)
  rise:p.Pairwise fun i j=>lt i j = true
theorem Srt.of {n:Nat} {p:Array Nat} (P:Pm n p) (U:Rsg lt p n):Srt lt n p.toList:=by
  refine ⟨by simpa using Array.perm_iff_toList_perm.mp P.perm,List.pairwise_iff_getElem.mpr fun i j hi hj hij=>?_⟩
  have hs:=P.siz
  rw [Array.length_toList] at hi hj
  have:=U i j hij (by wtm_at "om")
  rw [pt_eq hi,pt_eq hj] at this
  simpa using this
theorem Srt.few {n:Nat} (h:n < 2):Srt lt n (List.range n):=by
  refine ⟨List.Perm.refl _,?_⟩
  match n,h with
  | 0,_=>exact .nil
  | 1,_=>exact List.pairwise_singleton _ _
noncomputable def KeyCmp (prog:Program) (w:World) (C:Cx) (A:Around) (τ:Led) (κ:SortKind) (ks:List Value) (lt:Nat→Nat→Bool):Prop :=
  ∀ i j,i < ks.length→j < ks.length→T prog w C A τ (keyLt' κ (ks.getD i .none) (ks.getD j .none)) (fun b σ'=>b = lt i j∧τ.Sublist σ') NoE
theorem sortRun {Q:Unit × SortSt→Shared→Prop} {E:Value→Shared→Prop} (hl:ks.length = vs.length) (h2:2≤vs.length) (h64:vs.length < 64) (O:SO lt vs.length) (S:Sat C τ s) (hcmp:KeyCmp prog w C A τ κ ks lt)
    (h:∀ p st' s',Srt lt vs.length p→(arrOf st').map (·.2) = (p.map fun i=>vs.getD i .none).toArray→failedOf st' = none→Sat C τ s'→Q ((),st') s') :
    wpAny (model prog w) A (sortRuns'.run (SortSt.mk' κ (ks.toArray.zip vs.toArray) #[] 7 none)) Q E s:=by
  obtain ⟨a1,a2⟩:=sort_ok O (by wtm_at "om")
  refine wpAny_mono (kat_run (E:=E) (Q:=fun st s'=>Q ((),st) s') (G:=fun p s'=>p = kout lt (kas_sort vs.length)∧Sat C τ s') hl h2 h64 (fun p st' s' hs har hf hG=>?_) ?_) (fun r s' hr=>hr) fun _ _ e=>e
  · obtain ⟨rfl,S'⟩:=hG
    exact h _ st' s' (Srt.of a1 a2) (kat_snds hl har) hf S'
  · refine kasWp_out (n:=vs.length) (I:=Sat C τ) (lt:=lt) (P:=fun _=>True) (fun i j D s hi hj S k=>?_) _ _ (kb_sort (by wtm_at "om")) S fun s' S'=>⟨rfl,S'⟩
    exact (hcmp i j (by wtm_at "om") (by wtm_at "om")).kN S fun b σ' s' hb S'=>by
      obtain ⟨rfl,hs⟩:=hb
      exact k _ (S'.sub hs)
noncomputable def KeyKnd (prog:Program) (w:World) (C:Cx) (A:Around) (τ:Led) (ks:List Value) (κ:SortKind):Prop:=T prog w C A τ (keyKind' ks.toArray) (fun k σ'=>k = κ∧τ.Sublist σ') NoE
theorem raw_lst {its:List Value} {n:Nat}:(PO.lst (its.map er)).Of (seqObj "list" its.toArray n):=⟨_,_,rfl,rfl⟩
theorem zip_few {ks vs:List Value} (hl:ks.length = vs.length) (h2:vs.length < 2):(ks.toArray.zip vs.toArray).map (·.2) = ((List.range vs.length).map fun i=>vs.getD i .none).toArray:=by
  rcases vs with _ | ⟨a,_ | ⟨b,r⟩⟩
  · cases ks with
    | nil=>simp
    | cons b r=>cases hl
  · rcases ks with _ | ⟨b,_ | ⟨c,r⟩⟩
    · cases hl
    · simp
    · exact absurd (Nat.succ.inj hl) (Nat.succ_ne_zero _)
  · exact absurd h2 (Nat.not_lt.mpr (Nat.le_add_left 2 _))
theorem lsort {P:PySem.Fin→Shared→Prop} {E:Value→Shared→Prop} {n:Nat} (h64:vs.length < 64) (O:SO lt vs.length) (S:Sat C ((l,.raw (seqObj "list" vs.toArray n))::τ) s)
    (hk:∀ po,KeyKnd prog w C A ((l,po)::τ) vs κ) (hcmp:∀ po,KeyCmp prog w C A ((l,po)::τ) κ vs lt)
    (h:∀ p s',Srt lt vs.length p→Sat C ((l,.lst ((p.map fun i=>vs.getD i .none).map er))::τ) s'→P (.done (.ret .none)) s'):wpAny (model prog w) A (Builtin.«list.sort» ⟨[.ref l],[]⟩) P E s:=by
  obtain ⟨o,ho,e⟩:=S.get (.head _)
  have e:o = _:=e
  subst e
  rw [list_sort_plain]
  refine wpAny_bind (listItems_at ho rfl ?_)
  refine wpAny_bind (listUpdate_at ho rfl ?_ (by rw [List.size_toArray,sizeLine_eq]; wtm_at "om") (Nat.zero_le _))
  have hg:=get?_update_seq ho fun _=>(#[]:Array Value)
  generalize hc:(if (#[]:Array Value).size == vs.toArray.size then n else n + 1) = c at hg
  have S₁:=S.set (.head (p':=.raw (seqObj "list" #[] c))) (Heap.SameBut.update ..) hg rfl s.toks
  generalize hs₁:({ s with heap:=s.heap.update l (Obj.mapSeq fun _=>(#[]:Array Value)) }:Shared) = s₁ at S₁ ⊢
  obtain ⟨o,ho₁,e⟩:=S₁.get (.head _)
  have e:o = _:=e
  subst e
  refine wpAny_bind (seqEpoch_at ho₁ rfl ?_)
  refine wpAny_bind (wpAny_newTuple ?_ (by show vs.length≤_; rw [sizeLine_eq]; wtm_at "om"))
  refine wpAny_bind (wpAny_newList ?_ (Nat.zero_le _))
  have S₂:=(S₁.push0 (seqObj "tuple" vs.toArray 0) s₁.toks).push0 (seqObj "list" #[] 0) s₁.toks
  refine wpAny_holding ?_
  show wpAny (model prog w) A _ P E { s₁ with heap:=(s₁.heap.push (seqObj "tuple" vs.toArray 0)).push (seqObj "list" #[] 0) }
  generalize hs₂:({ s₁ with heap:=(s₁.heap.push (seqObj "tuple" vs.toArray 0)).push (seqObj "list" #[] 0) }:Shared) = s₂ at S₂ ⊢
  have fin:∀ (p:List Nat) (st':SortSt) (s₃:Shared),Srt lt vs.length p→(arrOf st').map (·.2) = (p.map fun i=>vs.getD i .none).toArray→failedOf st' = none→Sat C ((l,.raw (seqObj "list" #[] c))::τ) s₃ →
      wpAny (model prog w) A (do
        let sorted:=(arrOf st').map (·.2)
        let touched:=(← seqEpoch l) != c
        Builtin.List.listUpdate (.ref l) fun _=>sorted
        if let some e:=failedOf st' then rule "list.sort.comparison-raised"; throw e
        if touched then rule "list.sort.modified"; raiseError "ValueError" "list modified during sort"
        ret .none) P E s₃:=by
    intro p st' s₃ hp hout hf S₃
    obtain ⟨o,ho₃,e⟩:=S₃.get (.head _)
    have e:o = _:=e
    subst e
    have hsz:(p.map fun i=>vs.getD i Value.none).toArray.size = vs.length:=by rw [List.size_toArray,List.length_map,hp.perm.length_eq,List.length_range]
    dsimp only
    rw [hout]
    refine wpAny_bind (seqEpoch_at ho₃ rfl ?_)
    refine wpAny_bind (listUpdate_at ho₃ rfl ?_ (Nat.zero_le _) (Nat.le_trans (Nat.le_of_eq hsz) (by rw [sizeLine_eq]; wtm_at "om")))
    have hg₃:=get?_update_seq ho₃ fun _=>(p.map fun i=>vs.getD i Value.none).toArray
    have S₄:=S₃.set (.head (p':=.lst ((p.map fun i=>vs.getD i .none).map er))) (Heap.SameBut.update ..) hg₃ raw_lst s₃.toks
    rw [hf]
    simp only [bne_self_eq_false,Bool.false_eq_true,if_false]
    exact wpAny_pure (h p _ hp S₄)
  dsimp only
  by_cases h2:vs.toArray.size < 2
  · rw [if_pos h2,if_pos h2]
    refine wpAny_bind (wpAny_pure ?_)
    rw [StateT.run_pure]
    refine wpAny_bind (wpAny_pure ?_)
    rw [List.size_toArray] at h2
    refine fin (List.range vs.length) _ _ (Srt.few h2) ?_ rfl S₂
    exact zip_few rfl h2
  · rw [if_neg h2,if_neg h2]
    rw [List.size_toArray] at h2
    refine wpAny_bind ((hk _).kN S₂ fun k σ₁ s₃ hk S₃=>?_)
    obtain ⟨rfl,hs⟩:=hk
    refine wpAny_bind (sortRun (Q:=fun r s'=>wpAny (model prog w) A _ P E s') rfl (by wtm_at "om") h64 O (S₃.sub hs) (hcmp _) fun p st' s₄ hp hout hf S₄=>?_)
    exact fin p st' s₄ hp hout hf S₄
end
set_option genInjectivity true in
inductive At | s (x:Str) | i (n:Int)
  deriving DecidableEq
noncomputable def At.v:At→Value | .s x=>.str x 0 | .i n=>.int n 0
noncomputable def At.lt:At→At→Bool | .s x,.s y=>decide (x.cps.toList < y.cps.toList) | .i m,.i n=>decide (m < n) | _,_=>false
theorem At.lt_irr (a:At):At.lt a a = false:=by
  cases a with
  | s x=>exact decide_eq_false (List.lt_irrefl _)
  | i n=>exact decide_eq_false (Int.lt_irrefl n)
noncomputable def At.same:At→At→Bool | .s _,.s _=>true | .i _,.i _=>true | _,_=>false
noncomputable def At.ty:At→Value | .s _=>.type "str" | .i _=>.type "int"
noncomputable def plt (p q:At × At):Bool:=if p.1 = q.1 then At.lt p.2 q.2 else At.lt p.1 q.1
theorem At.er {a:At} {v:Value} (h:er v = a.v):(∃ x t,a = .s x∧v = .str x t) ∨ (∃ n t,a = .i n∧v = .int n t):=by
  cases a with
  | s x=>obtain ⟨t,rfl⟩:=er_str h; exact .inl ⟨x,t,rfl,rfl⟩
  | i n =>
    cases v with
    | int m t=>exact .inr ⟨n,t,rfl,by injection h with h; rw [h]⟩
    | _=>cases h
section
variable {prog:Program} {w:World} {C:Cx} {A:Around} {σ σ' τ:Led} {E:Value→Led→Prop} {s:Shared} {l:Addr} {lt:Nat→Nat→Bool} {ks vs xs:List Value} {κ:SortKind}
theorem getD_er {i:Nat}:(vs.map R3.er).getD i .none = R3.er (vs.getD i .none):=by
  rw [List.getD_eq_getElem?_getD,List.getD_eq_getElem?_getD,List.getElem?_map]
  cases vs[i]? <;> rfl
theorem map_er {p:List Nat}:(p.map fun i=>vs.getD i .none).map R3.er = p.map fun i=>(vs.map R3.er).getD i .none:=by
  rw [List.map_map]; exact List.map_congr_left fun i _=>getD_er.symm
theorem T_lsort {Q:Value→Led→Prop} (h64:xs.length < 64) (O:SO lt xs.length)
    (hk:∀ po vs,vs.map R3.er = xs→KeyKnd prog w C A.in1 ((l,po)::τ) vs κ) (hcmp:∀ po vs,vs.map R3.er = xs→KeyCmp prog w C A.in1 ((l,po)::τ) κ vs lt)
    (h:∀ p,Srt lt xs.length p→Q .none ((l,.lst (p.map fun i=>xs.getD i .none))::τ)):T prog w C A ((l,.lst xs)::τ) (call (.builtin "list.sort") [.ref l]) Q E:=by
  intro s S
  obtain ⟨o,ho,its,n,rfl,e⟩:=S.get (.head _)
  obtain ⟨its⟩:=its
  have hl:its.length = xs.length:=by rw [← e,List.length_map]
  refine wpAny_call_entry slot_list_sort ⟨_,ho,rfl⟩ entry_list_sort ?_ (args_list_sort _)
  have S':Sat C ((l,.raw (seqObj "list" its.toArray n))::τ) s:=S.set (h':=s.heap) (.head (p':=.raw (seqObj "list" its.toArray n))) ⟨rfl,fun _ _=>rfl⟩ ho rfl s.toks
  refine lsort (vs:=its) (lt:=lt) (κ:=κ) (by wtm_at "om") (hl ▸ O) S' (fun po=>hk po its e) (fun po=>hcmp po its e) fun p s' hp S'=>⟨_,rfl,_,h p (hl ▸ hp),?_⟩
  rw [map_er] at S'
  rw [← e]
  exact S'
theorem T_sortedL {Q:Value→Led→Prop} (hl:(l,.lst xs)∈σ) (h64:xs.length < 64) (O:SO lt xs.length)
    (hk:∀ D po vs,vs.map R3.er = xs→KeyKnd prog w C A.in1.in1 ((D,po)::σ) vs κ) (hcmp:∀ D po vs,vs.map R3.er = xs→KeyCmp prog w C A.in1.in1 ((D,po)::σ) κ vs lt)
    (h:∀ D p,Srt lt xs.length p→Q (.ref D) ((D,.lst (p.map fun i=>xs.getD i .none))::σ)):T prog w C A σ (call (.builtin "sorted") [.ref l]) Q E:=by
  intro s S
  obtain ⟨its,hL,e⟩:=S.isList hl
  have hz:its.size = xs.length:=lst_len e
  obtain ⟨its⟩:=its
  have hz:its.length = xs.length:=hz
  refine Calls.call_function_entry kind_sorted plain_sorted entry_sorted (args_sorted1 _) ?_
  unfold Builtin.«sorted»
  refine wpAny_bind (m:=checkCount "sorted" 1 1 _) (wpAny_pure ?_)
  refine wpAny_bind (collect_list hL ?_ (by show its.length≤_; rw [sizeLine_eq]; wtm_at "om"))
  refine wpAny_bind (wpAny_newList ?_ (by show its.length≤_; rw [sizeLine_eq]; wtm_at "om"))
  have keep:∀ b o,s.heap.get? b = some o→((s.heap.push (seqObj "list" #[] 0)).update s.heap.objs.size (Obj.mapSeq (· ++ its.toArray))).get? b = some o:=fun b o q=>by
    have hlt:b < s.heap.objs.size:=Heap.lt_size q
    rw [Heap.get?_update_ne _ _ _ _ (Nat.ne_of_lt hlt),Heap.get?_push_ne _ _ _ (Nat.ne_of_lt hlt)]
    exact q
  have S₁:=S.grown keep
  generalize hs₁:({ s with heap:=(s.heap.push (seqObj "list" #[] 0)).update s.heap.objs.size (Obj.mapSeq (· ++ its.toArray)) }:Shared) = s₁ at S₁
  have S₂:=S₁.push (p:=.raw (seqObj "list" its.toArray 0)) (o:=seqObj "list" its.toArray 0) rfl rfl s₁.toks
  generalize s₁.heap.objs.size = D at S₂ ⊢
  obtain ⟨o,hoD,q⟩:=S₂.get (.head _)
  have q:o = _:=q
  subst q
  refine wpAny_bind (wpAny_holding (wpAny_call_entry slot_list_sort ⟨_,hoD,rfl⟩ entry_list_sort ?_ (args_list_sort _)))
  refine lsort (vs:=its) (lt:=lt) (κ:=κ) (by wtm_at "om") (hz ▸ O) S₂ (fun po=>hk D po its e) (fun po=>hcmp D po its e) fun p s' hp S'=>⟨_,rfl,wpAny_pure ⟨_,rfl,_,h D p (hz ▸ hp),?_⟩⟩
  rw [map_er] at S'
  rw [← e]
  exact S'
inductive tups (τ:Led):List Value→List (At × At)→Prop
  | nil:tups τ [] []
  | cons {a:Addr} {p:At × At} {xs:List Value} {ps:List (At × At)} (h:(a,PO.tup [p.1.v,p.2.v])∈τ) (r:tups τ xs ps):tups τ (.ref a::xs) (p::ps)
theorem er_ref {v:Value} {a:Addr} (h:R3.er v = .ref a):v = .ref a:=by
  cases v with
  | ref b=>exact h
  | _=>cases h
theorem tups_at {ps:List (At × At)}:∀ {xs:List Value} {vs:List Value},tups τ xs ps→vs.map R3.er = xs→∀ i,i < vs.length→∃ a p,vs.getD i .none = .ref a∧ps[i]? = some p∧(a,PO.tup [p.1.v,p.2.v])∈τ:=by
  induction ps with
  | nil =>
    intro xs vs h e i hi
    cases h
    rw [List.map_eq_nil_iff] at e
    subst e; exact absurd hi (Nat.not_lt_zero _)
  | cons p r ih =>
    intro xs vs h e i hi
    cases h with
    | @cons a _ _ _ hm h2 =>
      obtain ⟨v,vs',rfl,e1,e2⟩:=List.map_eq_cons_iff.mp e
      have:=er_ref e1
      subst this
      cases i with
      | zero=>exact ⟨a,p,rfl,rfl,hm⟩
      | succ i =>
        obtain ⟨b,q,h3,h4,h5⟩:=ih h2 e2 i (Nat.lt_of_succ_lt_succ hi)
        exact ⟨b,q,h3,h4,h5⟩
theorem tup_obj {a:Addr} {p q:At} (S:Sat C σ s) (hm:(a,PO.tup [p.v,q.v])∈σ):∃ v u n,s.heap.get? a = some { cls:=.type "tuple", data:=.seq #[v,u] n }∧R3.er v = p.v∧R3.er u = q.v:=by
  obtain ⟨o,ho,its,n,rfl,e⟩:=S.get hm
  obtain ⟨its⟩:=its
  have hz:its.length = 2:=by have:=congrArg List.length e; simpa using this
  obtain ⟨v,u,rfl⟩:=two_of hz
  injection e with e1 e2
  injection e2 with e2
  exact ⟨v,u,n,ho,e1,e2⟩
theorem at_eq {p q:At} {v u:Value} {Q:Bool→Shared→Prop} {E:Value→Shared→Prop} (hv:R3.er v = p.v) (hu:R3.er u = q.v) (hs:At.same p q = true) (h:Q (decide (p = q)) s):wpAny (model prog w) A (eqBool v u) Q E s:=by
  rcases At.er hv with ⟨x,t,rfl,rfl⟩ | ⟨x,t,rfl,rfl⟩ <;> rcases At.er hu with ⟨y,t',rfl,rfl⟩ | ⟨y,t',rfl,rfl⟩ <;> first | cases hs; done | skip
  · refine wpAny_eqBool_str ?_
    have : decide (At.s x = At.s y) = decide (x = y):=by simp
    rwa [this] at h
  · refine wpAny_eqBool_int ?_
    have : decide (At.i x = At.i y) = (x == y):=by rw [Bool.eq_iff_iff]; simp
    rwa [this] at h
theorem at_lt {b:Bool} {p q:At} {v u:Value} {Q:Bool→Shared→Prop} {E:Value→Shared→Prop} (hv:R3.er v = p.v) (hu:R3.er u = q.v) (hs:At.same p q = true) (h:Q (At.lt p q) s):wpAny (model prog w) A (oneLt' b v u) Q E s:=by
  rcases At.er hv with ⟨x,t,rfl,rfl⟩ | ⟨x,t,rfl,rfl⟩ <;> rcases At.er hu with ⟨y,t',rfl,rfl⟩ | ⟨y,t',rfl,rfl⟩ <;> first | cases hs; done | skip
  · cases b with
    | true=>exact oneLt_str h
    | false=>exact kat_one _ _ (PyProof.Rows.lt_str h)
  · cases b with
    | true=>exact oneLt_int h
    | false=>exact kat_one _ _ (lt_int h)
noncomputable def Kin1 (ps:List (At × At)):Prop:=∀ p∈ps,∀ q∈ps,At.same p.1 q.1 = true∧At.same p.2 q.2 = true
theorem pair_cmp {ps:List (At × At)} (K:Kin1 ps) (ht:tups τ xs ps) (e:vs.map R3.er = xs):KeyCmp prog w C A τ (tuples' true) vs (fun i j=>match ps[i]?,ps[j]? with | some p,some q=>plt p q | _,_=>false):=by
  intro i j hi hj s S
  obtain ⟨a,p,h1,h2,h3⟩:=tups_at ht e i hi
  obtain ⟨b,q,g1,g2,g3⟩:=tups_at ht e j hj
  rw [h1,g1]
  obtain ⟨v1,v2,n,ho,e1,e2⟩:=tup_obj S h3
  obtain ⟨u1,u2,k,go,f1,f2⟩:=tup_obj S g3
  obtain ⟨s1,s2⟩:=K p (List.mem_of_getElem? h2) q (List.mem_of_getElem? g2)
  refine kat_lt ho rfl go rfl ?_
  have fin:∀ c,c = plt p q→(∃ σ',(c = (match ps[i]?,ps[j]? with | some p,some q=>plt p q | _,_=>false)∧τ.Sublist σ')∧Sat C σ' s):=fun c hc=>⟨τ,⟨by rw [h2,g2]; exact hc,List.Sublist.refl _⟩,S⟩
  refine kat_cons (at_eq e1 f1 s1 ?_)
  by_cases hpq:p.1 = q.1
  · rw [decide_eq_true hpq]
    refine kat_yes (kat_cons (at_eq e2 f2 s2 ?_))
    by_cases hpq2:p.2 = q.2
    · rw [decide_eq_true hpq2]
      refine kat_yes (kat_nil (fin _ ?_))
      unfold plt
      rw [if_pos hpq,hpq2]
      exact (At.lt_irr _).symm
    · rw [decide_eq_false hpq2]
      refine kat_no (at_lt e2 f2 s2 (fin _ ?_))
      unfold plt; rw [if_pos hpq]
  · rw [decide_eq_false hpq]
    refine kat_no (at_lt e1 f1 s1 (fin _ ?_))
    unfold plt; rw [if_neg hpq]
theorem looks_at {p:At} {v:Value} (h:R3.er v = p.v) {M:Model} {hp:Heap}:Looks M hp (typeOf v) p.ty:=by
  rcases At.er h with ⟨x,t,rfl,rfl⟩ | ⟨x,t,rfl,rfl⟩ <;> exact .now
theorem pair_knd {ps:List (At × At)} (K:Kin1 ps) (hne:ps ≠ []) (ht:tups τ xs ps) (e:vs.map R3.er = xs):KeyKnd prog w C A τ vs (tuples' true):=by
  intro s S
  obtain ⟨p₀,r,rfl⟩:=List.exists_cons_of_ne_nil hne
  have key:∀ (ps:List (At × At)) (xs vs:List Value),tups τ xs ps→vs.map R3.er = xs→∃ fs,KatTups s.heap vs fs∧fs.length = ps.length∧∀ f∈fs,∃ p∈ps,R3.er f = p.1.v:=by
    intro ps
    induction ps with
    | nil =>
      intro xs vs h e
      cases h
      rw [List.map_eq_nil_iff] at e
      subst e; exact ⟨[],trivial,rfl,fun _ h=>nomatch h⟩
    | cons p r ih =>
      intro xs vs h e
      cases h with
      | @cons a _ _ _ hm h2 =>
        obtain ⟨v,vs',rfl,e1,e2⟩:=List.map_eq_cons_iff.mp e
        have:=er_ref e1
        subst this
        obtain ⟨fs,k1,k2,k3⟩:=ih _ _ h2 e2
        obtain ⟨v1,v2,n,ho,f1,f2⟩:=tup_obj S hm
        refine ⟨v1::fs,.cons ho rfl rfl (by simp) k1,by rw [List.length_cons,List.length_cons,k2],fun f hf=>?_⟩
        rcases List.mem_cons.mp hf with rfl | hf
        · exact ⟨p,.head _,f1⟩
        · obtain ⟨q,hq,hh⟩:=k3 f hf
          exact ⟨q,.tail _ hq,hh⟩
  obtain ⟨fs,k1,k2,k3⟩:=key _ _ _ ht e
  have hT:∀ f∈fs,Looks (model prog w) s.heap (typeOf f) p₀.1.ty:=fun f hf=>by
    obtain ⟨p,hp,hh⟩:=k3 f hf
    have:=(K p hp p₀ (.head _)).1
    have e:p.1.ty = p₀.1.ty:=by
      cases h1:p.1 <;> cases h2:p₀.1 <;> rw [h1,h2] at this <;> first | rfl | cases this
    rw [← e]
    exact looks_at hh
  refine kat_kind k1 (by rw [k2]; exact Nat.succ_pos _) hT (by cases p₀.1 <;> rfl) ?_
  refine ⟨τ,⟨?_,List.Sublist.refl _⟩,S⟩
  cases p₀.1 <;> rfl
end
open PySem PySem.Calls
namespace PySem.SeqAt
open PySem.AutoSeq1 (wpAny_loadPart')
open MeetsSeq MeetsSeq2 MeetsSeq3
noncomputable def lexFrom (a b:Nat→Str):Nat→Nat→Bool
  | 0,_=>false
  | k + 1,i=>if a i = b i then lexFrom a b k (i + 1) else decide ((a i).cps.toList < (b i).cps.toList)
theorem lt_loopAt (l b:Addr) (items items2:Array Value) (n n2:Nat) (hsz:items.size = items2.size) (x y:Nat→Str) (hx:∀ j (h:j < items.size),∃ t,items[j] = .str (x j) t) (hy:∀ j (h:j < items2.size),∃ t,items2[j] = .str (y j) t) (k:Nat) :
    ∀ i:Nat,items.size - i = k→Meets (Builtin.«list.__eq__.loop» ⟨[.ref l,.ref b,rawInt i,rawInt 0],[]⟩)
      (fun _ R s=>s.heap.get? l = some { cls:=.type "list", data:=.seq items n }∧s.heap.get? b = some { cls:=.type "list", data:=.seq items2 n2 }∧R (.ok (.ret (.bool (lexFrom x y k i)))) s):=by
  induction k with
  | zero =>
    intro i hk prog w A R s h
    obtain ⟨hp,g,d,tk,os⟩:=s; obtain ⟨hl,hb,h⟩:=h
    wp_walk using wpAny_loadPart' hl,wpAny_loadPart' hb
    have hi1:items[((i:Nat):Int).toNat]? = none:=by simp; wtm_at "om"
    have hi2:items2[((i:Nat):Int).toNat]? = none:=by simp; wtm_at "om"
    rw [hi1,hi2]
    wp_walk using wpAny_loadPart' hl,wpAny_loadPart' hb
    show R (.ok (.ret (.bool (decide (items.size < items2.size))))) _
    rw [hsz]
    rw [decide_eq_false (Nat.lt_irrefl _)]
    exact h
  | succ k ih =>
    intro i hk prog w A R s h
    obtain ⟨hp,g,d,tk,os⟩:=s; obtain ⟨hl,hb,h⟩:=h
    wp_walk using wpAny_loadPart' hl,wpAny_loadPart' hb
    have hlt:i < items.size:=by wtm_at "om"
    have hlt2:i < items2.size:=by wtm_at "om"
    obtain ⟨t,ht⟩:=hx i hlt
    obtain ⟨u,hu⟩:=hy i hlt2
    have hi1:items[((i:Nat):Int).toNat]? = some (.str (x i) t):=by simp [hlt,ht]
    have hi2:items2[((i:Nat):Int).toNat]? = some (.str (y i) u):=by simp [hlt2,hu]
    have hc:((i:Int) + 1) = ((i + 1:Nat):Int):=by push_cast; rfl
    have h:R (.ok (.ret (.bool (if x i = y i then lexFrom x y k (i + 1) else decide ((x i).cps.toList < (y i).cps.toList))))) _:=h
    rw [hi1,hi2]
    refine wpAny_bind (wpAny_eqBool_str ?_)
    by_cases hb':x i = y i
    · rw [decide_eq_true hb']
      rw [if_pos hb'] at h
      wp_walk
      rw [hc]
      exact ⟨plainId_quiet plain_eq_loop _,codeAny_builtin entry_eq_loop (by
        rw [Around.under_plainId plain_eq_loop _]
        exact ih (i + 1) (by wtm_at "om") prog w A R _ ⟨hl,hb,h⟩)⟩
    · rw [decide_eq_false hb']
      rw [if_neg hb'] at h
      wp_walk using wpAny_loadPart' hl,wpAny_loadPart' hb
      rw [hi1,hi2]
      refine wpAny_bind (PyProof.Rows.lt_str (E:=fun _ _=>False) ?_ |> fun z=>wpAny_mono z (fun _ _ q=>q) fun _ _ q=>q.elim)
      exact wpAny_pure h
theorem list_ltAt (l b:Addr) (items items2:Array Value) (n n2:Nat) (hsz:items.size = items2.size) (x y:Nat→Str) (hx:∀ j (h:j < items.size),∃ t,items[j] = .str (x j) t) (hy:∀ j (h:j < items2.size),∃ t,items2[j] = .str (y j) t) :
    Meets (Builtin.«list.__lt__» ⟨[.ref l,.ref b],[]⟩)
      (fun _ R s=>s.heap.get? l = some { cls:=.type "list", data:=.seq items n }∧s.heap.get? b = some { cls:=.type "list", data:=.seq items2 n2 }∧R (.ok (.ret (.bool (lexFrom x y items.size 0)))) s):=by
  intro prog w A R s h
  obtain ⟨hp,g,d,tk,os⟩:=s; obtain ⟨hl,hb,h⟩:=h
  have f3:=AutoSeq1.sub_list_list
  wp_walk using wpAny_loadPart' hl,wpAny_loadPart' hb
  exact ⟨plainId_quiet plain_eq_loop _,codeAny_builtin entry_eq_loop (by
    rw [Around.under_plainId plain_eq_loop _]
    exact lt_loopAt l b items items2 n n2 hsz x y hx hy _ 0 rfl prog w A R _ ⟨hl,hb,h⟩)⟩
end PySem.SeqAt
noncomputable def two (p:Str × Str):List Value:=txts [p.1,p.2]
inductive lsts (τ:Led):List Value→List (Str × Str)→Prop
  | nil:lsts τ [] []
  | cons {a:Addr} {p:Str × Str} {xs:List Value} {ps:List (Str × Str)} (h:(a,PO.lst (two p))∈τ) (r:lsts τ xs ps):lsts τ (.ref a::xs) (p::ps)
noncomputable def slt (p q:Str × Str):Bool:=if p.1 = q.1 then decide (p.2.cps.toList < q.2.cps.toList) else decide (p.1.cps.toList < q.1.cps.toList)
section
variable {prog:Program} {w:World} {C:Cx} {A:Around} {σ σ' τ:Led} {E:Value→Led→Prop} {s:Shared} {l a q D kS:Addr} {lt:Nat→Nat→Bool} {ks vs xs:List Value} {κ:SortKind}
theorem lsts.mono {ps:List (Str × Str)} (h:lsts τ xs ps) {τ':Led} (hs:∀ x∈τ,x∈τ'):lsts τ' xs ps:=by
  induction h with
  | nil=>exact .nil
  | cons h _ ih=>exact .cons (hs _ h) ih
theorem lsts.snoc {ps:List (Str × Str)} {p:Str × Str} (h:lsts τ xs ps) (hp:(a,PO.lst (two p))∈τ):lsts τ (xs ++ [.ref a]) (ps ++ [p]):=by
  induction h with
  | nil=>exact .cons hp .nil
  | cons h _ ih=>exact .cons h ih
theorem lsts.len {ps:List (Str × Str)} (h:lsts τ xs ps):xs.length = ps.length:=by
  induction h with
  | nil=>rfl
  | cons _ _ ih=>rw [List.length_cons,List.length_cons,ih]
theorem lsts.at {ps:List (Str × Str)} (h:lsts τ xs ps):∀ i,i < xs.length→∃ a p,xs.getD i .none = .ref a∧ps[i]? = some p∧(a,PO.lst (two p))∈τ:=by
  induction h with
  | nil=>intro i hi; exact absurd hi (Nat.not_lt_zero _)
  | @cons b p xs ps h _ ih =>
    intro i hi
    cases i with
    | zero=>exact ⟨b,p,rfl,rfl,h⟩
    | succ i=>exact ih i (Nat.lt_of_succ_lt_succ hi)
theorem two_obj {p:Str × Str} (S:Sat C σ s) (hm:(a,PO.lst (two p))∈σ):∃ t u n,s.heap.get? a = some { cls:=.type "list", data:=.seq #[.str p.1 t,.str p.2 u] n }:=by
  obtain ⟨o,ho,its,n,rfl,e⟩:=S.get hm
  obtain ⟨its⟩:=its
  have hz:its.length = 2:=by have:=congrArg List.length e; simpa [two,txts] using this
  obtain ⟨v,u,rfl⟩:=two_of hz
  injection e with e1 e2
  injection e2 with e2
  obtain ⟨t,rfl⟩:=er_str e1
  obtain ⟨t',rfl⟩:=er_str e2
  exact ⟨t,t',n,ho⟩
theorem two_cmp {ps:List (Str × Str)} (hu:A.units + 10 < cLine) (ht:lsts τ ks ps):KeyCmp prog w C A τ oneType' ks (fun i j=>match ps[i]?,ps[j]? with | some p,some q=>slt p q | _,_=>false):=by
  intro i j hi hj s S
  obtain ⟨a,p,h1,h2,h3⟩:=ht.at i hi
  obtain ⟨b,q,g1,g2,g3⟩:=ht.at j hj
  rw [h1,g1]
  obtain ⟨t0,t1,n,ho⟩:=two_obj S h3
  obtain ⟨u0,u1,k,go⟩:=two_obj S g3
  rw [keyLt'_oneType,oneLt'_eq]
  rw [if_pos rfl]
  refine wpAny_bind (wpAny_cRoomFor (by wtm_at "om") ?_)
  refine wpAny_bind (wpAny_callSpecialIfBound?_slot (name:=Str.ofString "__lt__") ⟨_,ho,rfl⟩ PySem.F.slot_list_lt (call_meets PySem.F.slot_list_lt ⟨_,ho,rfl⟩ PySem.F.entry_list_lt (PySem.F.args_list_lt_2 _ _)
    (PySem.SeqAt.list_ltAt a b #[.str p.1 t0,.str p.2 t1] #[.str q.1 u0,.str q.2 u1] n k rfl (fun j=>if j = 0 then p.1 else p.2) (fun j=>if j = 0 then q.1 else q.2) (fun j hj=>?_) fun j hj=>?_) ⟨ho,go,?_⟩))
  · match j,hj with
    | 0,_=>exact ⟨_,rfl⟩
    | 1,_=>exact ⟨_,rfl⟩
  · match j,hj with
    | 0,_=>exact ⟨_,rfl⟩
    | 1,_=>exact ⟨_,rfl⟩
  · refine wpAny_truthy_bool ⟨τ,⟨?_,List.Sublist.refl _⟩,S⟩
    refine Eq.trans ?_ (show slt p q = (match ps[i]?,ps[j]? with | some p,some q=>slt p q | _,_=>false) by rw [h2,g2])
    show PySem.SeqAt.lexFrom _ _ 2 0 = slt p q
    unfold slt
    show (if p.1 = q.1 then (if p.2 = q.2 then false else decide (p.2.cps.toList < q.2.cps.toList)) else decide (p.1.cps.toList < q.1.cps.toList)) = _
    by_cases e:p.1 = q.1
    · rw [if_pos e,if_pos e]
      by_cases e2:p.2 = q.2
      · rw [if_pos e2,e2]; simp
      · rw [if_neg e2]
    · rw [if_neg e,if_neg e]
theorem two_knd {ps:List (Str × Str)} (h2:2≤ks.length) (ht:lsts τ ks ps):KeyKnd prog w C A τ ks oneType':=by
  intro s S
  refine kas_kind h2 (T:=.type "list") (fun v hv=>?_) rfl rfl ⟨τ,⟨rfl,List.Sublist.refl _⟩,S⟩
  obtain ⟨i,hi,rfl⟩:=List.mem_iff_getElem.mp hv
  obtain ⟨a,p,h1,_,h3⟩:=ht.at i hi
  rw [List.getD_eq_getElem?_getD,List.getElem?_eq_getElem hi,Option.getD_some] at h1
  rw [h1]
  obtain ⟨t0,t1,n,ho⟩:=two_obj S h3
  exact (Looks.ld ho).andThen .now
theorem kend {P:PySem.Fin→Shared→Prop} {E:Value→Shared→Prop} {c c':Nat} (hl:ks.length = vs.length) (h64:vs.length < 64) (O:SO lt vs.length) (S:Sat C ((kS,.raw (seqObj "list" ks.toArray c'))::(D,.raw (seqObj "list" #[] c))::τ) s)
    (hk:2≤vs.length→KeyKnd prog w C A ((kS,.raw (seqObj "list" ks.toArray c'))::(D,.raw (seqObj "list" #[] c))::τ) ks κ) (hcmp:KeyCmp prog w C A ((kS,.raw (seqObj "list" ks.toArray c'))::(D,.raw (seqObj "list" #[] c))::τ) κ ks lt)
    (h:∀ p s',Srt lt vs.length p→Sat C ((D,.lst ((p.map fun i=>vs.getD i .none).map er))::τ) s'→P (.done (.ret .none)) s'):wpAny (model prog w) A (ksk_end D false vs.toArray c (.ref kS) ks.toArray) P E s:=by
  have fin:∀ (p:List Nat) (st':SortSt) (s₃:Shared),Srt lt vs.length p→(arrOf st').map (·.2) = (p.map fun i=>vs.getD i .none).toArray→failedOf st' = none→Sat C ((kS,.raw (seqObj "list" ks.toArray c'))::(D,.raw (seqObj "list" #[] c))::τ) s₃ →
      wpAny (model prog w) A (ksk_tail D false c (.ref kS) st') P E s₃:=by
    intro p st' s₃ hp hout hf S₃
    obtain ⟨o,hoK,e⟩:=S₃.get (.head _)
    have e:o = _:=e
    subst e
    unfold ksk_tail
    dsimp only
    rw [hout]
    refine wpAny_bind (listUpdate_at hoK rfl ?_ (by show ks.length≤_; rw [sizeLine_eq]; wtm_at "om") (by show 0≤_; wtm_at "om"))
    have S₄:=S₃.ext (h':=s₃.heap.update kS (Obj.mapSeq fun _=>(#[]:Array Value))) (Heap.SameBut.update s₃.heap kS (Obj.mapSeq fun _=>(#[]:Array Value))).extBut s₃.toks
    refine wpAny_bind (wpAny_letGo ?_)
    obtain ⟨o,hoD,e⟩:=S₄.get (.head _)
    have e:o = _:=e
    subst e
    have hsz:(p.map fun i=>vs.getD i Value.none).toArray.size = vs.length:=by rw [List.size_toArray,List.length_map,hp.perm.length_eq,List.length_range]
    refine wpAny_bind (seqEpoch_at hoD rfl ?_)
    refine wpAny_bind (listUpdate_at hoD rfl ?_ (by show 0≤_; wtm_at "om") (by rw [if_neg Bool.false_ne_true]; exact Nat.le_trans (Nat.le_of_eq hsz) (by rw [sizeLine_eq]; wtm_at "om")))
    rw [if_neg Bool.false_ne_true]
    have hgD:=get?_update_seq hoD fun _=>(p.map fun i=>vs.getD i Value.none).toArray
    have S₅:=S₄.set (.head (p':=.lst ((p.map fun i=>vs.getD i .none).map er))) (Heap.SameBut.update ..) hgD raw_lst s₃.toks
    rw [hf]
    simp only [bne_self_eq_false,Bool.false_eq_true,if_false]
    exact wpAny_pure (h p _ hp S₅)
  unfold ksk_end
  dsimp only
  rw [if_neg Bool.false_ne_true]
  by_cases h2:vs.toArray.size < 2
  · rw [if_pos h2,if_pos h2]
    refine wpAny_bind (wpAny_pure ?_)
    rw [StateT.run_pure]
    refine wpAny_bind (wpAny_pure ?_)
    rw [List.size_toArray] at h2
    refine fin (List.range vs.length) _ _ (Srt.few h2) ?_ rfl S
    rw [if_neg Bool.false_ne_true]
    exact zip_few hl h2
  · rw [if_neg h2,if_neg h2]
    rw [List.size_toArray] at h2
    refine wpAny_bind ((hk (by wtm_at "om")).kN S fun k σ₁ s₃ hk S₃=>?_)
    obtain ⟨rfl,hs⟩:=hk
    rw [if_neg Bool.false_ne_true]
    refine wpAny_bind (sortRun (Q:=fun r s'=>wpAny (model prog w) A (ksk_tail D false c (.ref kS) r.2) P E s') hl (by wtm_at "om") h64 O (S₃.sub hs) hcmp fun p st' s₄ hp hout hf S₄=>?_)
    exact fin p st' s₄ hp hout hf S₄
end
structure Ord1 {α:Type} (lt:α→α→Bool):Prop where
  tr:∀ {a b c},lt a b = true→lt b c = true→lt a c = true
  as:∀ {a b},lt a b = true→lt b a = false
noncomputable def bef (x y:Str):Bool:=decide (x.cps.toList < y.cps.toList)
theorem str_ext {x y:Str} (h:x.cps.toList = y.cps.toList):x = y:=by cases x; cases y; simp only at h; rw [Array.toList_inj.mp h]
theorem bef_ord:Ord1 bef where
  tr:=fun h1 h2=>by simp only [bef,decide_eq_true_eq] at *; exact List.lt_trans h1 h2
  as:=fun h=>by
    simp only [bef,decide_eq_true_eq,decide_eq_false_iff_not] at *
    exact fun h2=>List.lt_irrefl _ (List.lt_trans h h2)
theorem bef_tot {x y:Str} (h:x ≠ y):bef x y = true ∨ bef y x = true:=by
  simp only [bef,decide_eq_true_eq]
  rcases Decidable.em (x.cps.toList < y.cps.toList) with h1 | h1
  · exact .inl h1
  · rcases Decidable.em (y.cps.toList < x.cps.toList) with h2 | h2
    · exact .inr h2
    · exact absurd (str_ext (List.le_antisymm (List.not_lt.mp h2) (List.not_lt.mp h1))) h
theorem bef_irr (x:Str):bef x x = false:=by
  cases h:bef x x with
  | false=>rfl
  | true=>have:=bef_ord.as h; rw [h] at this; exact this
noncomputable def lex {α β:Type} [DecidableEq α] (l1:α→α→Bool) (l2:β→β→Bool) (p q:α × β):Bool:=if p.1 = q.1 then l2 p.2 q.2 else l1 p.1 q.1
theorem lex_ord {α β:Type} [DecidableEq α] {l1:α→α→Bool} {l2:β→β→Bool} (O1:Ord1 l1) (O2:Ord1 l2):Ord1 (lex l1 l2) where
  tr:=fun {a b c} h1 h2=>by
    unfold lex at *
    by_cases e1:a.1 = b.1
    · by_cases e2:b.1 = c.1
      · rw [if_pos e1] at h1; rw [if_pos e2] at h2; rw [if_pos (e1.trans e2)]; exact O2.tr h1 h2
      · rw [if_neg e2] at h2; rw [if_neg (fun e=>e2 (e1.symm.trans e)),e1]; exact h2
    · rw [if_neg e1] at h1
      by_cases e2:b.1 = c.1
      · rw [if_neg (fun e=>e1 (e.trans e2.symm)),← e2]; exact h1
      · rw [if_neg e2] at h2
        by_cases e3:a.1 = c.1
        · rw [e3] at h1
          have:=O1.as h1
          rw [h2] at this; cases this
        · rw [if_neg e3]; exact O1.tr h1 h2
  as:=fun {a b} h=>by
    unfold lex at *
    by_cases e1:a.1 = b.1
    · rw [if_pos e1] at h; rw [if_pos e1.symm]; exact O2.as h
    · rw [if_neg e1] at h; rw [if_neg (fun e=>e1 e.symm)]; exact O1.as h
theorem lex_tot {α β:Type} [DecidableEq α] {l1:α→α→Bool} {l2:β→β→Bool} (t1:∀ {a b},a ≠ b→l1 a b = true ∨ l1 b a = true) (t2:∀ {a b},a ≠ b→l2 a b = true ∨ l2 b a = true) {p q:α × β} (h:p ≠ q):lex l1 l2 p q = true ∨ lex l1 l2 q p = true:=by
  unfold lex
  by_cases e:p.1 = q.1
  · rw [if_pos e,if_pos e.symm]
    exact t2 fun e2=>h (Prod.ext e e2)
  · rw [if_neg e,if_neg (fun x=>e x.symm)]
    exact t1 e
noncomputable def plc {α:Type} (lt:α→α→Bool) (ps:List α) (i j:Nat):Bool:=match ps[i]?,ps[j]? with | some p,some q=>lt p q | _,_=>false
theorem so_of {α:Type} {lt:α→α→Bool} {ps:List α} (O:Ord1 lt) (tot:∀ a∈ps,∀ b∈ps,a ≠ b→lt a b = true ∨ lt b a = true) (nd:ps.Nodup):SO (plc lt ps) ps.length where
  tr:=fun {i j k} hi hj hk=>by
    unfold plc
    rw [List.getElem?_eq_getElem hi,List.getElem?_eq_getElem hj,List.getElem?_eq_getElem hk]
    exact O.tr
  as:=fun {i j} hi hj=>by
    unfold plc
    rw [List.getElem?_eq_getElem hi,List.getElem?_eq_getElem hj]
    exact O.as
  tot:=fun {i j} hi hj hij=>by
    unfold plc
    rw [List.getElem?_eq_getElem hi,List.getElem?_eq_getElem hj]
    exact tot _ (List.getElem_mem _) _ (List.getElem_mem _) fun e=>hij ((List.getElem_inj nd).mp e)
theorem srt_list {α:Type} {lt:α→α→Bool} {ps:List α} {p:List Nat} (h:Srt (plc lt ps) ps.length p):∃ qs:List α,p.map (ps[·]?) = qs.map some∧qs.Perm ps∧qs.Pairwise fun a b=>lt a b = true:=by
  have hlt:∀ i∈p,i < ps.length:=fun i hi=>List.mem_range.mp (h.perm.mem_iff.mp hi)
  have hmem:∀ (p:List Nat),(∀ i∈p,i < ps.length)→p.map (ps[·]?) = (p.filterMap (ps[·]?)).map some:=by
    intro p hp
    induction p with
    | nil=>rfl
    | cons i r ih =>
      have hi:=hp i (.head _)
      rw [List.map_cons,List.filterMap_cons,List.getElem?_eq_getElem hi,List.map_cons,ih fun j hj=>hp j (.tail _ hj)]
  refine ⟨p.filterMap (ps[·]?),hmem p hlt,(h.perm.filterMap _).trans ?_,?_⟩
  · have : (List.range ps.length).filterMap (ps[·]?) = ps:=by
      apply List.ext_getElem?
      intro n
      have e:=hmem (List.range ps.length) fun i hi=>List.mem_range.mp hi
      have e2:=congrArg (·[n]?) e
      simp only [List.getElem?_map,List.getElem?_range'] at e2
      by_cases hn:n < ps.length
      · rw [List.getElem?_range hn] at e2
        cases hq:((List.range ps.length).filterMap (ps[·]?))[n]? with
        | none=>rw [hq] at e2; cases e2
        | some v =>
          rw [hq] at e2
          simp only [Option.map_some,Option.some.injEq] at e2
          exact e2.symm
      · rw [List.getElem?_eq_none (Nat.le_of_not_lt hn)]
        apply List.getElem?_eq_none
        have:=congrArg List.length e
        simp only [List.length_map,List.length_range] at this
        wtm_at "om"
    rw [this]
  · refine List.Pairwise.filterMap _ (fun i j hij a ha b hb=>?_) h.rise
    unfold plc at hij
    have ha:ps[i]? = some a:=ha
    have hb:ps[j]? = some b:=hb
    rw [ha,hb] at hij
    exact hij
theorem sorted_unique {α:Type} {lt:α→α→Bool} (O:Ord1 lt):∀ {l1 l2:List α},l1.Pairwise (fun a b=>lt a b = true)→l2.Pairwise (fun a b=>lt a b = true)→l1.Perm l2→l1 = l2
  | [],l2,_,_,h=>by rw [List.nil_perm.mp h]
  | a::r,l2,h1,h2,h=>by
    cases l2 with
    | nil=>exact absurd h (by simp)
    | cons b q =>
      have e:a = b:=by
        apply Classical.byContradiction
        intro hne
        rw [List.pairwise_cons] at h1 h2
        have ha:a∈q:=by
          rcases List.mem_cons.mp (h.mem_iff.mp (List.mem_cons_self)) with e | e
          · exact absurd e hne
          · exact e
        have hb:b∈r:=by
          rcases List.mem_cons.mp (h.symm.mem_iff.mp (List.mem_cons_self)) with e | e
          · exact absurd e.symm hne
          · exact e
        have:=O.as (h1.1 b hb)
        rw [h2.1 a ha] at this; cases this
      subst e
      rw [List.pairwise_cons] at h1 h2
      rw [sorted_unique O h1.2 h2.2 ((List.perm_cons a).mp h)]
section
variable {prog:Program} {w:World} {C:Cx} {A:Around} {σ σ' τ:Led} {E:Value→Led→Prop} {s:Shared} {l a D kS c:Addr} {env:Env} {ks vs:List Value} {xs:List Str} {q:LamTab}
theorem keyLoop {f:Value} {po:PO} {kf:Str→Str × Str} {R:PUnit→Shared→Prop} {E:Value→Shared→Prop} {body:Value→PUnit→Sem (ForInStep PUnit)}
    (hkey:∀ ρ x t,x∈xs→T prog w C A (ρ ++ σ) (call f [.str x t]) (fun k σ'=>∃ d,k = .ref d∧((d,PO.lst (two (kf x)))::(ρ ++ σ)).Sublist σ') NoE)
    (hb:∀ v s R',wpAny (model prog w) A (call f [v]) (fun k s'=>wpAny (model prog w) A (Builtin.List.listUpdate (.ref kS) (·.push k)) (fun _ s''=>R' (.yield ⟨⟩) s'') E s') (fun _ _=>False) s→wpAny (model prog w) A (body v ⟨⟩) R' E s) :
    ∀ (ys:List Str) (vs:List Value) (ks:List Value) (done:List Str) (κ:Led) (c':Nat) (s:Shared),vs.map er = txts ys→(∀ y∈ys,y∈xs)→lsts κ ks (done.map kf)→ks.length + ys.length < 64 →
      Sat C ((kS,.raw (seqObj "list" ks.toArray c'))::(D,po)::(κ ++ σ)) s →
      (∀ ks' κ' c'' s',lsts κ' ks' ((done ++ ys).map kf)→Sat C ((kS,.raw (seqObj "list" ks'.toArray c''))::(D,po)::(κ' ++ σ)) s'→R ⟨⟩ s')→wpAny (model prog w) A (forIn vs PUnit.unit body) R E s
  | [],vs,ks,done,κ,c',s,he,_,hl,_,S,fin=>by
    have : vs = []:=List.map_eq_nil_iff.mp he
    subst this
    rw [List.forIn_nil]
    exact wpAny_pure (fin ks κ c' s (by rw [List.append_nil]; exact hl) S)
  | y::ys,vs,ks,done,κ,c',s,he,hm,hl,hz,S,fin=>by
    obtain ⟨v,vs',rfl,e1,e2⟩:=List.map_eq_cons_iff.mp he
    obtain ⟨t,rfl⟩:=er_str e1
    rw [List.length_cons] at hz
    rw [List.forIn_cons]
    refine wpAny_bind (hb _ _ _ ?_)
    have k:=hkey ((kS,.raw (seqObj "list" ks.toArray c'))::(D,po)::κ) y t (hm y (.head _))
    refine T.kN (E':=fun _ _=>False) k S fun k σ' s' ⟨d,e,hs⟩ S'=>?_
    subst e
    have S₁:=(S'.sub hs).perm (σ':=(kS,.raw (seqObj "list" ks.toArray c'))::(D,po)::((d,PO.lst (two (kf y)))::κ ++ σ)) ((List.Perm.swap _ _ _).trans ((List.Perm.swap _ _ _).cons _))
    obtain ⟨o,ho,e⟩:=S₁.get (.head _)
    have e:o = _:=e
    subst e
    refine listUpdate_at ho rfl ?_ (by show ks.length≤_; rw [sizeLine_eq]; wtm_at "om") (by rw [Array.size_push]; show ks.length + 1≤_; rw [sizeLine_eq]; wtm_at "om")
    have hg:=get?_update_seq ho (fun xs:Array Value=>xs.push (Value.ref d))
    rw [show ks.toArray.push (Value.ref d) = (ks ++ [Value.ref d]).toArray by simp] at hg
    generalize (if ((ks ++ [Value.ref d]).toArray.size == ks.toArray.size) = true then c' else c' + 1) = c₂ at hg
    refine keyLoop hkey hb ys vs' (ks ++ [.ref d]) (done ++ [y]) ((d,PO.lst (two (kf y)))::κ) _ _ e2 (fun z hz=>hm z (.tail _ hz)) ?_ (by rw [List.length_append,List.length_singleton]; wtm_at "om") (S₁.set (.head (p':=.raw (seqObj "list" (ks ++ [Value.ref d]).toArray c₂))) (Heap.SameBut.update ..) hg rfl s'.toks) fun ks' κ' c'' s' h1 h2=>fin ks' κ' c'' s' (by rw [List.append_assoc] at h1; exact h1) h2
    rw [List.map_append]
    exact (hl.mono fun x hx=>.tail _ hx).snoc (.head _)
theorem two_cmp' {ps:List (Str × Str)} (hu:A.units + 10 < cLine) (ht:lsts τ ks ps):KeyCmp prog w C A τ oneType' ks (plc (lex bef bef) ps):=by
  have e:plc (lex bef bef) ps = (fun i j=>match ps[i]?,ps[j]? with | some p,some q=>slt p q | _,_=>false):=by
    funext i j
    unfold plc
    cases ps[i]? <;> cases ps[j]? <;> rfl
  rw [e]
  exact two_cmp hu ht
theorem pair_cmp' {xs:List Value} {ps:List (At × At)} (K:Kin1 ps) (ht:tups τ xs ps) (e:vs.map R3.er = xs):KeyCmp prog w C A τ (tuples' true) vs (plc (lex At.lt At.lt) ps):=by
  have e2:plc (lex At.lt At.lt) ps = (fun i j=>match ps[i]?,ps[j]? with | some p,some q=>plt p q | _,_=>false):=by
    funext i j
    unfold plc
    cases ps[i]? <;> cases ps[j]? <;> rfl
  rw [e2]
  exact pair_cmp K ht e
theorem T_sortedKey {f:Addr} {kf:Str→Str × Str} {Q:Value→Led→Prop} (ha:(a,sps prog w xs)∈σ) (hh:A.handled = none) (hu:A.units + 12 < cLine) (h64:xs.length < 60) (hnd:xs.Nodup) (hinj:∀ x∈xs,∀ y∈xs,kf x = kf y→x = y)
    (hkey:∀ ρ x t,x∈xs→T prog w C A.in1.in1 (ρ ++ σ) (call (.ref f) [.str x t]) (fun k σ'=>∃ d,k = .ref d∧((d,PO.lst (two (kf x)))::(ρ ++ σ)).Sublist σ') NoE)
    (h:∀ D zs,zs.Perm xs→zs.Pairwise (fun x y=>lex bef bef (kf x) (kf y) = true)→Q (.ref D) ((D,.lst (txts zs))::σ)) :
    T prog w C A σ (call (.builtin "sorted") [.ref a] [(Str.ofString "key", .ref f)]) Q E:=by
  intro s S
  refine call_function_entry_kw kind_sorted plain_sorted entry_sorted (ksk_s1 _ _) ?_
  unfold Builtin.«sorted»
  refine wpAny_bind (m:=checkCount "sorted" 1 1 _) (wpAny_pure ?_)
  refine wpAny_bind (collectP S ha (by wtm_at "om") hh fun ys vs s₁ hp hv S₁=>?_)
  have hvl:vs.length = ys.length:=by have:=congrArg List.length hv; rwa [List.length_map,txts,List.length_map] at this
  have hyl:ys.length = xs.length:=hp.length_eq
  refine wpAny_bind (wpAny_newList ?_ (by show vs.length≤_; rw [sizeLine_eq]; wtm_at "om"))
  generalize hD:s₁.heap.objs.size = D
  have S₂:=S₁.push (p:=.raw (seqObj "list" vs.toArray 0)) (o:=seqObj "list" vs.toArray 0) rfl rfl s₁.toks
  rw [hD] at S₂
  generalize hs₂:({ s₁ with heap:=s₁.heap.push (seqObj "list" vs.toArray 0) }:Shared) = s₂ at S₂ ⊢
  obtain ⟨o,hoD,e⟩:=S₂.get (.head _)
  have e:o = _:=e
  subst e
  refine wpAny_bind (wpAny_holding (wpAny_call_entry_kw slot_list_sort ⟨_,hoD,rfl⟩ entry_list_sort ?body (ksk_l1 _ _)))
  rw [ksk_t1]
  unfold ksk_tree
  refine wpAny_bind (listItems_at hoD rfl ?_)
  refine wpAny_bind (listUpdate_at hoD rfl ?_ (by show vs.length≤_; rw [sizeLine_eq]; wtm_at "om") (by show 0≤_; wtm_at "om"))
  have hg:=get?_update_seq hoD fun _=>(#[]:Array Value)
  generalize hc:(if (#[]:Array Value).size == vs.toArray.size then 0 else 0 + 1) = c at hg
  have S₃:=S₂.set (.head (p':=.raw (seqObj "list" #[] c))) (Heap.SameBut.update ..) hg rfl s₂.toks
  generalize hs₃:({ s₂ with heap:=s₂.heap.update D (Obj.mapSeq fun _=>(#[]:Array Value)) }:Shared) = s₃ at S₃ ⊢
  obtain ⟨o,hoD₃,e⟩:=S₃.get (.head _)
  have e:o = _:=e
  subst e
  refine wpAny_bind (seqEpoch_at hoD₃ rfl ?_)
  refine wpAny_bind (wpAny_newTuple ?_ (by show vs.toArray.toList.length≤_; rw [sizeLine_eq]; simp; wtm_at "om"))
  have S₄:=S₃.push0 { cls:=.type "tuple", data:=.seq vs.toArray.toList.toArray } s₃.toks
  refine wpAny_bind (wpAny_newList ?_ (by show 0≤_; wtm_at "om"))
  have S₅:=S₄.push (p:=.raw (seqObj "list" ([]:List Value).toArray 0)) (o:=seqObj "list" ([]:List Value).toArray 0) rfl rfl s₃.toks
  generalize hk:(s₃.heap.push { cls:=.type "tuple", data:=.seq vs.toArray.toList.toArray }).objs.size = kS at S₅ ⊢
  refine wpAny_holding ?_
  unfold ksk_rest
  refine wpAny_bind (wpAny_rule ?_)
  rw [← Array.forIn_toList]
  have hys:∀ y∈ys,y∈xs:=fun y hy=>hp.mem_iff.mp hy
  refine wpAny_bind (keyLoop (A:=A.in1.in1) (kf:=kf) (po:=.raw (seqObj "list" #[] c)) (D:=D) (kS:=kS) (σ:=σ) (xs:=xs) hkey (fun v s R' hv=>?_) ys vs [] [] [] 0 _ hv hys .nil (by rw [List.length_nil]; wtm_at "om") S₅ fun ks' κ' c'' s₆ hl S₆=>?_)
  · refine wpAny_bind (wpAny_attempt (wpAny_mono hv (fun k s' h=>?_) fun _ _ q=>q.elim))
    exact wpAny_bind (wpAny_mono h (fun _ s'' h=>wpAny_pure h) fun _ _ q=>q)
  · rw [List.nil_append] at hl
    obtain ⟨o,hoK,e⟩:=S₆.get (.head _)
    have e:o = _:=e
    subst e
    refine wpAny_bind (listItems_at hoK rfl ?_)
    have hkl:ks'.length = vs.length:=by rw [hl.len,List.length_map]; wtm_at "om"
    have hndk:(ys.map kf).Nodup:=by
      have h1:ys.Nodup:=hp.nodup_iff.mpr hnd
      refine List.pairwise_map.mpr (List.Pairwise.imp_of_mem (fun {x y} hx hy hne e=>hne (hinj x (hys x hx) y (hys y hy) e)) h1)
    have O:SO (plc (lex bef bef) (ys.map kf)) vs.length:=by
      have:=so_of (lex_ord bef_ord bef_ord) (ps:=ys.map kf) (fun _ _ _ _ h=>lex_tot bef_tot bef_tot h) hndk
      rw [List.length_map,← hvl] at this
      exact this
    have hu':A.in1.in1.units + 10 < cLine:=by show A.units + 1 + 1 + 10 < _; wtm_at "om"
    have hl':lsts ((kS,.raw (seqObj "list" ks'.toArray c''))::(D,.raw (seqObj "list" #[] c))::(κ' ++ σ)) ks' (ys.map kf):=hl.mono fun x hx=>.tail _ (.tail _ (List.mem_append_left _ hx))
    refine kend (κ:=oneType') (lt:=plc (lex bef bef) (ys.map kf)) hkl (by wtm_at "om") O S₆ (fun h2=>two_knd (by wtm_at "om") hl') (two_cmp' hu' hl') fun p s' hp' S'=>⟨_,rfl,wpAny_pure ⟨_,rfl,?_⟩⟩
    have hp2:Srt (plc (lex bef bef) (ys.map kf)) (ys.map kf).length p:=by rw [List.length_map,← hvl]; exact hp'
    obtain ⟨qs,g1,g2,g3⟩:=srt_list hp2
    have hz:∃ zs:List Str,p.map (ys[·]?) = zs.map some∧qs = zs.map kf:=by
      have hlt:∀ i∈p,i < ys.length:=fun i hi=>by have:=List.mem_range.mp (hp'.perm.mem_iff.mp hi); wtm_at "om"
      clear g2 g3 hp2 S' hp'
      induction p generalizing qs with
      | nil =>
        cases qs with
        | nil=>exact ⟨[],rfl,rfl⟩
        | cons _ _=>cases g1
      | cons i r ih =>
        cases qs with
        | nil=>cases g1
        | cons b qs =>
          rw [List.map_cons,List.map_cons] at g1
          injection g1 with g1 g2
          obtain ⟨zs,e1,e2⟩:=ih qs g2 fun j hj=>hlt j (.tail _ hj)
          have hi:=hlt i (.head _)
          refine ⟨ys[i]::zs,by rw [List.map_cons,List.map_cons,e1,List.getElem?_eq_getElem hi],?_⟩
          rw [List.map_cons,← e2]
          rw [List.getElem?_map,List.getElem?_eq_getElem hi] at g1
          injection g1 with g1
          rw [← g1]
    obtain ⟨zs,z1,z2⟩:=hz
    have hperm:zs.Perm ys:=by
      have h1:(zs.map some).Perm ((List.range ys.length).map (ys[·]?)):=by
        rw [← z1]
        have:=hp'.perm
        rw [hvl] at this
        exact this.map _
      have h2:(List.range ys.length).map (ys[·]?) = ys.map some:=by
        apply List.ext_getElem?
        intro n
        rw [List.getElem?_map,List.getElem?_map]
        by_cases hn:n < ys.length
        · rw [List.getElem?_range hn,List.getElem?_eq_getElem hn]; simp [List.getElem?_eq_getElem hn]
        · rw [List.getElem?_eq_none (Nat.le_of_not_lt hn),List.getElem?_eq_none (by rw [List.length_range]; wtm_at "om")]; rfl
      rw [h2] at h1
      have:=h1.filterMap id
      simpa using this
    refine ⟨_,h D zs (hperm.trans hp) ?_,?_⟩
    · rw [z2,List.pairwise_map] at g3
      exact g3
    · have e3:(p.map fun i=>vs.getD i .none).map er = txts zs:=by
        rw [map_er,hv]
        have : ∀ (p:List Nat) (zs:List Str),p.map (ys[·]?) = zs.map some→p.map (fun i=>(txts ys).getD i Value.none) = txts zs:=by
          intro p
          induction p with
          | nil=>intro zs h; cases zs with | nil=>rfl | cons _ _=>cases h
          | cons i r ih =>
            intro zs h
            cases zs with
            | nil=>cases h
            | cons z zs =>
              rw [List.map_cons,List.map_cons] at h
              injection h with h1 h2
              have:=ih zs h2
              rw [List.map_cons,this,List.getD_eq_getElem?_getD,txts,List.getElem?_map,h1]
              rfl
        exact this p zs z1
      rw [e3] at S'
      exact S'.sub ((List.sublist_append_right _ _).cons_cons _)
end
section
variable {prog:Program} {w:World} {C:Cx} {A:Around} {σ σ' τ:Led} {E:Value→Led→Prop} {env:Env} {s:Shared} {q:LamTab} {c:Addr}
theorem T_sortedLamN {e:Expr} {p kp lp pos:Pos} {params:Arguments} {body:Expr} {scope:Scope} {clos:List (Str × Addr)} {n:Str} {kf:Str→Str × Str} {Q:Value→Led→Prop} (hq:q∈C.lams) (hh:A.handled = none) (hroom:A.depth < recursionLimit) (hu:A.units + 12 < cLine)
    (hdef:defaultsOf params env = ([],[])) (hcl:closureFor scope env = Pure.pure clos) (hge0:env.globals = mainGlobals) (hcode:env.code = .ref c) (hpos:q.pos = lp) (hqual:q.qual = env.qual ++ "<lambda>") (hHd:∀ h,C.K.In h→CodeHd h c q.P)
    (hbind:∀ pm cv ctv v,bindArgs (kla_fn "<lambda>" (env.qual ++ "<lambda>") params body scope clos pm cv ctv) ⟨[v],[]⟩ = Pure.pure [(n,v)]) (hloc:scope.names.lookup n = some .local)
    (h:T prog w C A σ (eval (.Name "sorted" p) env) (fun f σ₁=>f = .builtin "sorted" ∧ T prog w C A σ₁ (eval e env) (fun v σ₂=>Ex2 fun a xs=>Al7 (v = .ref a) ((a,sps prog w xs)∈σ₂) (xs.length < 60) xs.Nodup ((∀ x∈xs,∀ y∈xs,kf x = kf y→x = y)) ((∀ x∈xs,∀ (C':Cx),C'.K = C.K→∀ ρ L f c₂,T prog w C' (A.in1.in1.deeper (envX (env.qual ++ "<lambda>") scope L f (.ref c₂) clos)) ((L,.ns [(n,.str x 0)])::ρ ++ σ₂) (eval body (envX (env.qual ++ "<lambda>") scope L f (.ref c₂) clos)) (fun v σ'=>∃ d,v = .ref d∧((d,PO.lst (two (kf x)))::(ρ ++ σ₂)).Sublist σ') NoE)) (∀ D zs,zs.Perm xs→zs.Pairwise (fun x y=>lex bef bef (kf x) (kf y) = true)→Q (.ref D) ((D,.lst (txts zs))::σ₂))) E) E)
    (hco:scope.isCoroutine = false:=by rfl) (hgen:scope.isGenerator = false:=by rfl) (hk:scope.kind = .function:=by rfl) (hcell:∀ x∈scope.names,x.2 ≠ .cell:=by decide)
    (he:starEach [e] env = [(false,eval e env)]:=by rfl) :
    T prog w C A σ (eval (.Call (.Name "sorted" p) [e] [⟨some "key", .Lambda params body scope lp,kp⟩] pos) env) Q E:=fun s S=>by
  refine wpAny_Call_Name_kw (h.k S fun f σ₁ s₁ hf S₁=>?_)
  obtain ⟨rfl,h₁⟩:=hf
  refine callWith_kw ?_ (by show backTo pos (starEach [e] env) = _; rw [he]; rfl) (by show (backTo pos (starEach [e] env)).any _ = _; rw [he]; rfl)
  refine wpAny_items_cons (h₁.k S₁ fun v σ₂ s₂ hv S₂=>?_) (by rw [he]; rfl)
  obtain ⟨a,xs,rfl,ha,hz,hnd,hinj,hkey,hQ⟩:=hv
  refine wpAny_items_nil ?_
  refine kws_cons (lamMake S₂ hq hdef hcl hge0 hcode hpos hqual (hHd _ S₂.kin) fun f c' o vs t s₃ hd hv S₃=>kws_nil ?_)
  show wpAny _ _ (call (.builtin "sorted") [.ref a] [(Str.ofString "key", .ref f)]) _ _ s₃
  have key:=T_sortedKey (prog:=prog) (w:=w) (A:=A) (E:=E) (C:=C.withLam q hq (c',o)) (σ:=(f,.prd (LamO (env.qual ++ "<lambda>") params body scope clos c'))::σ₂) (a:=a) (f:=f) (xs:=xs) (kf:=kf) (Q:=fun v σ'=>∃ σ'',σ''.Sublist σ'∧Q v σ'') (.tail _ ha) hh hu hz hnd hinj (fun ρ x t' hx s₄ S₄=>?_) fun D zs h1 h2=>⟨_,(List.sublist_cons_self _ _).cons_cons _,hQ D zs h1 h2⟩
  · refine wpAny_mono (key s₃ S₃) (fun v s' ⟨σ',⟨σ'',hs,hq'⟩,S'⟩=>⟨σ'',hq',(S'.sub hs).noLam⟩) fun e s' ⟨σ',he,S'⟩=>⟨σ',he,S'.noLam⟩
  · refine wpAny_call (lamCall (binds:=[(n,.str x t')]) S₄ (List.mem_append_right _ (.head _)) hd hv hroom (fun pm ctv=>hbind _ _ _ _) (fun y hy=>by rw [List.mem_singleton.mp hy]; exact hloc) (fun L s₅ S₅=>?_) hco hgen hk hcell)
    have S₆:Sat (C.withLam q hq (c',o)) ((L,.ns [(n,.str x 0)])::(ρ ++ [(f,.prd (LamO (env.qual ++ "<lambda>") params body scope clos c'))]) ++ σ₂) s₅:=by
      rw [List.cons_append,List.append_assoc]
      exact S₅
    refine (hkey x hx (C.withLam q hq (c',o)) rfl (ρ ++ [(f,.prd (LamO (env.qual ++ "<lambda>") params body scope clos c'))]) L f c').kN S₆ fun v σ' s' ⟨d,e,hs⟩ S'=>?_
    subst e
    refine ⟨_,⟨d,rfl,List.Sublist.refl _⟩,S'.sub ?_⟩
    rw [List.append_assoc] at hs
    exact hs
end
theorem Upd.app {a:Addr} {p p':PO} {τ τ':Led} (U:Upd a p p' τ τ'):∀ pre:Led,Upd a p p' (pre ++ τ) (pre ++ τ')
  | []=>U
  | _::r=>.tail (Upd.app U r)
theorem Upd.split {a:Addr} {p p'':PO} {τ τ'':Led} (U:Upd a p p'' τ τ'') (p':PO):∃ τ',Upd a p p' τ τ'∧Upd a p' p'' τ' τ'':=by
  induction U with
  | @head r=>exact ⟨_,.head,.head⟩
  | @tail q r r' _ ih=>obtain ⟨τ',h1,h2⟩:=ih; exact ⟨q::τ',.tail h1,.tail h2⟩
noncomputable abbrev tupE (es:List Expr) (k:Nat) (pos:Pos):Expr:=.Tuple es k pos
structure DrwP (C:Cx) (prog:Program) (w:World) (A:Around) (it:Addr) (po:Nat→Led) (xs:List (Value × Value)) (need:Led→Prop):Prop where
  step:∀ {i τ s} {Q:Option Value→Shared→Prop} {E:Value→Shared→Prop} {es:List Expr} {k:Nat} {pos:Pos},need τ→Sat C (po i ++ τ) s→(xs[i]? = none→∀ s',Sat C τ s'→Q none s') →
    (∀ p,xs[i]? = some p→∀ TT pre s',(TT,PO.tup [p.1,p.2])∈pre ++ τ→(po (i + 1)).Sublist pre→Sat C (pre ++ τ) s'→Q (some (.ref TT)) s') →
    wpAny (model prog w) A (pyNext (.ref it)) (fun r s₁=>match r with
      | none=>Q none s₁
      | some v=>wpAny (model prog w) A (letOwnedTupleGo (tupE es k pos) (.ref it) v) (fun _ s₂=>Q (some v) s₂) E s₁) E s
  self:∀ {i τ s} {Q:Value→Shared→Prop} {E:Value→Shared→Prop},Sat C (po i ++ τ) s→Q (.ref it) s→wpAny (model prog w) A (pyIter (.ref it)) Q E s
section
variable {prog:Program} {w:World} {C:Cx} {A:Around} {σ τ τ':Led} {s:Shared} {E:Value→Led→Prop} {env:Env} {x y:Str} {px py pt:Pos} {k:Nat} {it l D:Addr} {po:Nat→Led} {need:Led→Prop} {xs:List (Value × Value)}
theorem Vs.of {p:Value} {P:Value→Prop} (h:∀ v,er v = er p→P v):Vs p P:=by cases p <;> first | exact fun _=>h _ rfl | exact h _ rfl
theorem asg2 {p:Value × Value} {TT:Addr} {pre pre':Led} {m:List (Str × Value)} {Q:Unit→Shared→Prop} {E:Value→Shared→Prop} (hh:A.handled = none) (hT:(TT,PO.tup [p.1,p.2])∈pre ++ τ) (hsub:pre'.Sublist pre) (U:Upd env.locals (.ns m) (.ns ((y,er p.2)::(x,er p.1)::m)) τ τ')
    (hkx:env.kindOf x = some .local) (hky:env.kindOf y = some .local) (hkf:env.scope.kind = .function) (S:Sat C (pre ++ τ) s) (h:∀ s',Sat C (pre' ++ τ') s'→Q () s') :
    wpAny (model prog w) A (assign (tupE [.Name x px,.Name y py] k pt) env (.ref TT)) Q E s:=by
  obtain ⟨τ₁,U1,U2⟩:=U.split (.ns ((x,er p.1)::m))
  refine T.kN (T_assignT2 (prog:=prog) (w:=w) (E:=NoE) (Q:=fun _ σ'=>σ' = pre ++ τ') hh hT rfl rfl ?_) S fun _ σ' s' e S'=>?_
  · refine Vs.of fun v₁ e1=>Vs.of fun v₂ e2=>?_
    rw [← e1] at U1 U2
    rw [← e2] at U2
    refine T_assignN (T_stL (U1.app pre) hkx hkf (T_assignN (T_stL (U2.app pre) hky hkf rfl)))
  · subst e
    exact h _ (S'.sub (hsub.append (List.Sublist.refl _)))
theorem T_forP {body:List Stmt} {R:Result→Led→Prop} (I:DrwP C prog w A it po xs need) (hh:A.handled = none) (hkx:env.kindOf x = some .local) (hky:env.kindOf y = some .local) (hkf:env.scope.kind = .function)
    (J:List (Value × Value)→Led→Prop) (h0:J xs τ) (hn:∀ r τ,J r τ→need τ)
    (turn:∀ p r τ i,J (p::r) τ→Ex2 fun m τ'=>Upd env.locals (.ns m) (.ns ((y,er p.2)::(x,er p.1)::m)) τ τ'∧T prog w C A (po i ++ τ') (execs body env) (fun fl σ₂=>match fl with
        | .next | .cont=>∃ τ'',J r τ''∧(po i ++ τ'').Sublist σ₂
        | .brk=>R (.ok .next) σ₂
        | .ret v=>R (.ok (.ret v)) σ₂) NoE)
    (fin:∀ τ,J [] τ→R (.ok .next) τ):TC prog w C A (po 0 ++ τ) (.forLoop (tupE [.Name x px,.Name y py] k pt) (.ref it) body [] env) R:=by
  intro s S
  refine codeAny_forLoop_any (fun n s'=>Ex3 fun i r τ=>Al4 (n = r.length) (r = xs.drop i) (J r τ) (Sat C (po i ++ τ) s')) ?_ xs.length ⟨0,xs,τ,rfl,rfl,h0,S⟩
  rintro n s' ⟨i,r,τ,rfl,rfl,hJ,S'⟩
  refine wpAny_mono (I.step (Q:=fun r s₁=>match r with
    | none=>xs[i]? = none∧Sat C τ s₁
    | some v=>Ex3 fun p TT pre=>Al5 (xs[i]? = some p) (v = .ref TT) ((TT,PO.tup [p.1,p.2])∈pre ++ τ) ((po (i + 1)).Sublist pre) (Sat C (pre ++ τ) s₁)) (E:=fun _ _=>False) (es:=[.Name x px,.Name y py]) (k:=k) (pos:=pt) (hn _ _ hJ) S' (fun hx s₁ S₁=>⟨hx,S₁⟩) fun p hx TT pre s₁ hT hsub S₁=>⟨p,TT,pre,hx,rfl,hT,hsub,S₁⟩) (fun r s₁ h₁=>?_) fun _ _ h=>h.elim
  cases r with
  | none =>
    obtain ⟨hx,S₁⟩:=h₁
    rw [List.drop_eq_nil_iff.mpr (List.getElem?_eq_none_iff.mp hx)] at hJ
    exact wpAny_execs_nil ⟨_,fin _ hJ,S₁⟩
  | some v =>
    refine wpAny_mono h₁ (fun _ s₂ h₂=>?_) fun _ _ h=>h.elim
    obtain ⟨p,TT,pre,hx,rfl,hT,hsub,S₂⟩:=h₂
    have hlt:i < xs.length:=(List.getElem?_eq_some_iff.mp hx).1
    have hd:xs.drop i = p::xs.drop (i + 1):=by rw [List.drop_eq_getElem_cons hlt,(List.getElem?_eq_some_iff.mp hx).2]
    rw [hd] at hJ
    obtain ⟨m,τ',U,hb⟩:=turn p _ τ (i + 1) hJ
    refine asg2 hh hT hsub U hkx hky hkf S₂ fun s₃ S₃=>?_
    refine T.kN hb S₃ fun fl σ₂ s₄ h₄ S₄=>?_
    have hlen:(xs.drop (i + 1)).length < (xs.drop i).length:=by rw [hd,List.length_cons]; exact Nat.lt_succ_self _
    cases fl with
    | next=>obtain ⟨τ'',hJ',hs⟩:=h₄; exact ⟨_,hlen,i + 1,_,τ'',rfl,rfl,hJ',S₄.sub hs⟩
    | cont=>obtain ⟨τ'',hJ',hs⟩:=h₄; exact ⟨_,hlen,i + 1,_,τ'',rfl,rfl,hJ',S₄.sub hs⟩
    | brk=>exact ⟨_,h₄,S₄⟩
    | ret v=>exact ⟨_,h₄,S₄⟩
inductive prs (τ:Led):List Value→List (Value × Value)→Prop
  | nil:prs τ [] []
  | cons {a:Addr} {p:Value × Value} {vs:List Value} {ps:List (Value × Value)} (h:(a,PO.tup [p.1,p.2])∈τ) (r:prs τ vs ps):prs τ (.ref a::vs) (p::ps)
theorem prs.len {vs:List Value} {ps:List (Value × Value)} (h:prs τ vs ps):vs.length = ps.length:=by
  induction h with
  | nil=>rfl
  | cons _ _ ih=>rw [List.length_cons,List.length_cons,ih]
theorem prs.mono {vs:List Value} {ps:List (Value × Value)} (h:prs τ vs ps) (hs:∀ x∈τ,x∈τ'):prs τ' vs ps:=by
  induction h with
  | nil=>exact .nil
  | cons h _ ih=>exact .cons (hs _ h) ih
theorem prs.at {vs:List Value} {ps:List (Value × Value)} (h:prs τ vs ps):∀ {i:Nat},(vs[i]? = none→ps[i]? = none)∧∀ v,vs[i]? = some v→Ex2 fun a p=>Al3 (v = .ref a) (ps[i]? = some p) ((a,PO.tup [p.1,p.2])∈τ):=by
  induction h with
  | nil=>intro i; exact ⟨fun _=>rfl,fun v hv=>(nomatch hv)⟩
  | @cons a p vs ps h _ ih =>
    intro i
    cases i with
    | zero=>exact ⟨fun h=>(nomatch h),fun v hv=>by cases hv; exact ⟨a,p,rfl,rfl,by assumption⟩⟩
    | succ i=>exact ih
theorem prs.app {vs vs':List Value} {ps ps':List (Value × Value)} (h:prs τ vs ps) (h':prs τ vs' ps'):prs τ (vs ++ vs') (ps ++ ps'):=by
  induction h with
  | nil=>exact h'
  | cons h _ ih=>exact .cons h ih
theorem drwL {vs:List Value} (hh:A.handled = none):DrwP C prog w A it (fun i=>[(it,itr l i)]) xs (fun τ=>(l,.lst vs)∈τ∧prs τ vs xs) where
  step:=by
    intro i τ s Q E es k pos hn S h0 h1
    obtain ⟨hl,hp⟩:=hn
    refine (itsL (prog:=prog) (w:=w) (A:=A) (xs:=vs) hh).next hl S (fun hx s' S'=>h0 (hp.at.1 hx) s' S') fun p v hx he s' S'=>?_
    obtain ⟨a,q,e,hq,hm⟩:=hp.at.2 p hx
    subst e
    have:=er_ref he
    subst this
    obtain ⟨oi,hoi,hci,hdi⟩:=S'.get (.head _)
    exact wpAny_letOwnedTupleGo_listiter (l:=l) (i:=i + 1) ⟨oi,hoi,hci,hdi⟩ (h1 q hq a [(it,itr l (i + 1))] s' (.tail _ hm) (List.Sublist.refl _) S')
  self:=fun S h=>(itsL (prog:=prog) (w:=w) (A:=A) (l:=l) (xs:=vs) hh).self S h
theorem drwE {e:Addr} {zs:List Value} (hh:A.handled = none):DrwP C prog w A e (fun i=>[(e,enm it i),(it,itr l i)]) (zs.mapIdx fun i z=>(.int i 0,z)) (fun τ=>(l,.lst zs)∈τ) where
  step:=by
    intro i τ s Q E es k pos hl S h0 h1
    refine enum_next hh S hl (fun hx s' S'=>h0 (by rw [List.getElem?_mapIdx,hx]; rfl) s' (S'.sub (List.sublist_cons_self _ _))) fun p TT item s' hp S'=>?_
    obtain ⟨oe,hoe,e1⟩:=S'.get (.head _)
    have e1:oe = _:=e1
    subst e1
    refine wpAny_letOwnedTupleGo_enum hoe fun h' he' hs'=>?_
    have S₄:=S'.set (.head (p':=enm it (i + 1))) hs' he' ⟨_,rfl⟩ s'.toks
    have S₅:=S₄.perm (σ':=[(TT,PO.tup [.int i 0,p]),(e,enm it (i + 1)),(it,itr l (i + 1))] ++ τ) (pm3 _ _ _ _)
    exact h1 (.int i 0,p) (by rw [List.getElem?_mapIdx,hp]; rfl) TT _ _ (.head _) (List.sublist_cons_self _ _) S₅
  self:=fun S h=>by
    obtain ⟨oe,hoe,old,rfl⟩:=S.get (.head _)
    exact wpAny_pyIter_enum hoe h
end
theorem fmT {β:Type} (l:List β) (h:β→Str):l.filterMap (fun q=>some (Value.str (h q) 0)) = txts (l.map h):=by
  rw [txts,List.map_map]
  exact congrFun (List.filterMap_eq_map (f:=fun q=>Value.str (h q) 0)) l
theorem sl {x y:Str} {a b c:Nat} (hx:x.length≤a) (hy:y.length≤b) (h:Nat.ble (a + b) c = true):(x ++ y).length≤c:=Str.length_append .. ▸ Nat.le_trans (Nat.add_le_add hx hy) (Nat.le_of_ble_eq_true h)
theorem sa {x y:Str} {a b:Nat} (hx:x.length≤a) (hy:y.length≤b) (h:Nat.ble (a + b) 1000000 = true):x.length + y.length≤1000000:=Nat.le_trans (Nat.add_le_add hx hy) (Nat.le_of_ble_eq_true h)
section
variable {prog:Program} {w:World} {C:Cx} {A:Around} {σ τ τ':Led} {s:Shared} {E:Value→Led→Prop} {env:Env} {elt target iter kx vx:Expr} {x y z:Str} {px py pz pt:Pos} {k:Nat} {it l D:Addr} {po:Nat→Led} {need:Led→Prop} {xs:List (Value × Value)} {ifs:List Expr} {gs:List Comprehension} {scope:Scope} {pos spos:Pos}
theorem T_LCg (cl:List (Str × Addr)) {Q:Value→Led→Prop}
    (hclos:closureFor scope env = Pure.pure cl) (hkind:scope.kind = .function) (hnames:∀ x∈scope.names,x.2 = .local→scope.names.lookup x.1 = some .local)
    (h:T prog w C A σ (eval iter env) (fun xv σ₁=>T prog w C A σ₁ (pyIter xv) (fun it σ₂=>CompT prog w C A σ₂ env (.ListComp elt (⟨target,iter,ifs,0⟩::gs) scope pos) scope cl (newList []) none Q E it) E) E)
    (hs:∀ x,foldedSetIterable iter env x = Pure.pure x:=by intro _; rfl):T prog w C A σ (eval (.ListComp elt (⟨target,iter,ifs,0⟩::gs) scope pos) env) Q E:=by
  rw [arm_eval_ListComp]
  exact wpAny_comp_free rfl hs hclos hkind hnames h
theorem T_DCg (cl:List (Str × Addr)) {Q:Value→Led→Prop}
    (hclos:closureFor scope env = Pure.pure cl) (hkind:scope.kind = .function) (hnames:∀ x∈scope.names,x.2 = .local→scope.names.lookup x.1 = some .local)
    (h:T prog w C A σ (eval iter env) (fun xv σ₁=>T prog w C A σ₁ (pyIter xv) (fun it σ₂=>CompT prog w C A σ₂ env (.DictComp kx vx (⟨target,iter,ifs,0⟩::gs) scope pos) scope cl newDict none Q E it) E) E)
    (hs:∀ x,foldedSetIterable iter env x = Pure.pure x:=by intro _; rfl):T prog w C A σ (eval (.DictComp kx vx (⟨target,iter,ifs,0⟩::gs) scope pos) env) Q E:=by
  rw [arm_eval_DictComp]
  exact wpAny_comp_free rfl hs hclos hkind hnames h
noncomputable abbrev lcP (elt iter:Expr) (x y:Str) (px py pt:Pos) (k:Nat) (ifs:List Expr) (scope:Scope) (pos:Pos):Expr:=.ListComp elt [⟨tupE [.Name x px,.Name y py] k pt,iter,ifs,0⟩] scope pos
noncomputable abbrev dcP (kx vx iter:Expr) (x y:Str) (px py pt:Pos) (k:Nat) (ifs:List Expr) (scope:Scope) (pos:Pos):Expr:=.DictComp kx vx [⟨tupE [.Name x px,.Name y py] k pt,iter,ifs,0⟩] scope pos
theorem T_compP {cl:List (Str × Addr)} {Q:Value→Led→Prop} {use:Option (Value→Sem Unit)} (I:DrwP C prog w A it po xs need) (hh:A.handled = none) (J:List (Value × Value)→List Value→Led→Prop) (h0:J xs [] τ) (hn:∀ r ys τ,J r ys τ→need τ) (hsz:∀ r ys τ,J r ys τ→ys.length≤1000000)
    (hk:scope.kind = .function) (hx:scope.names.lookup x = some .local) (hy:scope.names.lookup y = some .local) (hcell:∀ y∈scope.names,y.2 ≠ .cell)
    (turn:∀ D L p r ys τ i m,J (p::r) ys τ→T prog w C A (po i ++ (L,.ns ((y,er p.2)::(x,er p.1)::m))::(D,.lst ys)::τ) (tests ifs (compEnvC scope cl L env)) (fun ok σ₁ =>
      if ok = true then T prog w C A σ₁ (eval elt (compEnvC scope cl L env)) (fun v σ₂=>∃ τ',J r (ys ++ [er v]) τ'∧(po i ++ (L,.ns ((y,er p.2)::(x,er p.1)::m))::(D,.lst ys)::τ').Sublist σ₂) NoE
      else ∃ τ',J r ys τ'∧(po i ++ (L,.ns ((y,er p.2)::(x,er p.1)::m))::(D,.lst ys)::τ').Sublist σ₁) NoE)
    (fin:∀ ys τ,J [] ys τ→FinC prog w C A τ (.lst ys) Q E use) (hneed:∀ q τ,need τ→need (q::τ)) :
    CompT prog w C A (po 0 ++ τ) env (lcP elt iter x y px py pt k ifs scope pos) scope cl (newList []) use Q E (.ref it):=by
  intro s S
  unfold CompRestU
  refine wpAny_newObj_type ?_
  have S₁:=S.push (p:=.lst []) (o:={ cls:=.type "list", data:=.seq ([]:List Value).toArray }) ⟨_,_,rfl,rfl⟩ rfl s.toks
  generalize hD:s.heap.objs.size = D at S₁
  generalize hs₁:({ s with heap:=s.heap.push { cls:=.type "list", data:=.seq ([]:List Value).toArray },toks:=s.toks }:Shared) = s₁ at S₁
  refine wpAny_newFunctionEnv hcell (by intro y hy; simp at hy) (fun h₁ hns hsb=>?_) hk
  obtain ⟨oL,hoL,hpL⟩:=PO.of_ns (m:=[]) hns (fun x=>rfl)
  have kk:∀ b o,s₁.heap.get? b = some o→h₁.get? b = some o:=fun b o e=>hsb.extBut b o (Nat.ne_of_lt (Heap.lt_size e)) (Heap.get?_push_of_some _ e)
  have S₂:=S₁.grow kk (Nat.le_refl _) hoL hpL (s₁.toks + ([]:List (Str × Value)).length)
  generalize hL:s₁.heap.objs.size = L at *
  have S₃:=S₂.perm (σ':=po 0 ++ (L,.ns [])::(D,.lst [])::τ) (by
    have:=(List.perm_append_comm (l₁:=[(L,PO.ns []),(D,PO.lst [])]) (l₂:=po 0)).append_right τ
    rw [List.append_assoc,List.append_assoc] at this
    exact this)
  have hkx:(compEnvC scope cl L env).kindOf x = some .local:=lookup_relabel_local hx
  have hky:(compEnvC scope cl L env).kindOf y = some .local:=lookup_relabel_local hy
  have hkf:(compEnvC scope cl L env).scope.kind = .function:=by simp [compEnvC,relabel,hk]
  have loop:codeAny (model prog w) A (.compLoop (lcP elt iter x y px py pt k ifs scope pos) 0 (.ref it) (.ref D) (compEnvC scope cl L env)) (compPost (model prog w) A (fun e s'=>∃ σ',E e σ'∧Sat C σ' s') use (fun v s'=>∃ σ',Q v σ'∧Sat C σ' s') (.ref D) L)
      { s₁ with heap:=h₁,toks:=s₁.toks + ([]:List (Str × Value)).length }:=by
    refine codeAny_loop rfl (fun n s'=>Ex5 fun i r ys τ m=>Al4 (n + i = xs.length) (r = xs.drop i) (J r ys τ) (Sat C (po i ++ (L,.ns m)::(D,.lst ys)::τ) s')) (fun n s' hI=>?_) xs.length ⟨0,xs,[],τ,[],rfl,rfl,h0,S₃⟩
    obtain ⟨i,r,ys,τ,m,hi,rfl,hJ,S'⟩:=hI
    show wpAny _ A ((compTurn (lcP elt iter x y px py pt k ifs scope pos) 0 (.ref it) (.ref D) (compEnvC scope cl L env)).onRaise (fun x=>do noteFrame x (compEnvC scope cl L env); theTreesLotGoes x)) _ _ s'
    refine wpAny_noted ?_
    rw [compTurn_list]
    refine wpAny_bind (wpAny_standAt (wpAny_bind (wpAny_mono (I.step (Q:=fun r s₁=>match r with
      | none=>xs[i]? = none∧Sat C ((L,.ns m)::(D,.lst ys)::τ) s₁
      | some v=>Ex3 fun p TT pre=>Al5 (xs[i]? = some p) (v = .ref TT) ((TT,PO.tup [p.1,p.2])∈pre ++ (L,.ns m)::(D,.lst ys)::τ) ((po (i + 1)).Sublist pre) (Sat C (pre ++ (L,.ns m)::(D,.lst ys)::τ) s₁)) (E:=fun _ _=>False) (es:=[.Name x px,.Name y py]) (k:=k) (pos:=pt) (hneed _ _ (hneed _ _ (hn _ _ _ hJ))) S' (fun hx s₁ S₁=>⟨hx,S₁⟩) fun p hx TT pre s₁ hT hsub S₁=>⟨p,TT,pre,hx,rfl,hT,hsub,S₁⟩) (fun r s₂ h₂=>?_) fun _ _ h=>h.elim)))
    cases r with
    | none =>
      obtain ⟨hx',S₂⟩:=h₂
      rw [List.drop_eq_nil_iff.mpr (List.getElem?_eq_none_iff.mp hx')] at hJ
      exact wpAny_pure ((fin _ _ hJ).post S₂)
    | some v =>
      refine wpAny_bind (wpAny_mono h₂ (fun _ s₃ h₃=>?_) fun _ _ h=>h.elim)
      obtain ⟨p,TT,pre,hx',rfl,hT,hsub,S₃⟩:=h₃
      have hlt:i < xs.length:=(List.getElem?_eq_some_iff.mp hx').1
      have hd:xs.drop i = p::xs.drop (i + 1):=by rw [List.drop_eq_getElem_cons hlt,(List.getElem?_eq_some_iff.mp hx').2]
      rw [hd] at hJ
      refine wpAny_bind (asg2 (env:=compEnvC scope cl L env) (τ':=(L,.ns ((y,er p.2)::(x,er p.1)::m))::(D,.lst ys)::τ) hh hT hsub .head hkx hky hkf S₃ fun s₄ S₄=>?_)
      refine wpAny_bind (T.kN (turn D L p _ ys τ (i + 1) m hJ) S₄ fun ok σ₅ s₅ h₅ S₅=>?_)
      cases ok with
      | false =>
        obtain ⟨τ',hJ',hs⟩:=h₅
        refine wpAny_pure ?_
        exact ⟨rfl,n - 1,by wtm_at "om", i + 1,_,ys,τ',_,by wtm_at "om", rfl,hJ',S₅.sub hs⟩
      | true =>
        refine wpAny_bind (wpAny_bind (T.kN h₅ S₅ fun v σ₆ s₆ h₆ S₆=>?_))
        obtain ⟨τ',hJ',hs⟩:=h₆
        have hl:ys.length≤1000000:=Nat.le_trans (by rw [List.length_append]; exact Nat.le_add_right _ _) (hsz _ _ _ hJ')
        refine wpAny_bind ((T_append (E:=NoE) (Q:=fun _ σ'=>σ' = po (i + 1) ++ (L,.ns ((y,er p.2)::(x,er p.1)::m))::(D,.lst (ys ++ [er v]))::τ') ((Upd.tail .head).app _) hl rfl).kN (S₆.sub hs) fun _ σ₉ s₉ e9 S₉=>?_)
        subst e9
        exact wpAny_pure (wpAny_pure ⟨rfl,n - 1,by wtm_at "om", i + 1,_,ys ++ [er v],τ',_,by wtm_at "om", rfl,hJ',S₉⟩)
  exact codeAny_compStart_list loop (I.self S₃ loop)
theorem T_compM {β:Type} {cl:List (Str × Addr)} {Q:Value→Led→Prop} {use:Option (Value→Sem Unit)} (bs:List β) (g:β→Value × Value) (f:β→Option Value) (I:DrwP C prog w A it po (bs.map g) need) (hh:A.handled = none) (hn:need τ) (hz:bs.length≤1000000)
    (hk:scope.kind = .function) (hx:scope.names.lookup x = some .local) (hy:scope.names.lookup y = some .local) (hcell:∀ y∈scope.names,y.2 ≠ .cell)
    (turn:∀ (σ₀:Led) (L:Addr) (m:List (Str × Value)) (b:β),b∈bs→(L,.ns ((y,er (g b).2)::(x,er (g b).1)::m))∈σ₀→(∀ q∈τ,q∈σ₀)→T prog w C A σ₀ (tests ifs (compEnvC scope cl L env)) (fun ok σ₁ =>
      if ok = true then T prog w C A σ₁ (eval elt (compEnvC scope cl L env)) (fun v σ₂=>f b = some (er v)∧σ₀.Sublist σ₂) NoE else f b = none∧σ₀.Sublist σ₁) NoE)
    (fin:FinC prog w C A τ (.lst (bs.filterMap f)) Q E use) (hneed:∀ q τ,need τ→need (q::τ)) :
    CompT prog w C A (po 0 ++ τ) env (lcP elt iter x y px py pt k ifs scope pos) scope cl (newList []) use Q E (.ref it):=by
  refine T_compP I hh (fun r ys τ'=>τ' = τ∧∃ done rest,bs = done ++ rest∧r = rest.map g∧ys = done.filterMap f) ⟨rfl,[],bs,rfl,rfl,rfl⟩ (fun r ys τ' h=>h.1 ▸ hn) (fun r ys τ' h=>?_) hk hx hy hcell (fun D L p r ys τ' i m h=>?_) (fun ys τ' h=>?_) hneed
  · obtain ⟨_,done,rest,e,_,rfl⟩:=h
    refine Nat.le_trans (List.length_filterMap_le f done) (Nat.le_trans ?_ hz)
    rw [e,List.length_append]
    exact Nat.le_add_right _ _
  · obtain ⟨rfl,done,rest,e,hr,rfl⟩:=h
    cases rest with
    | nil=>cases hr
    | cons b rest =>
      injection hr with h1 h2
      subst h1 h2
      have e':bs = (done ++ [b]) ++ rest:=by rw [e,List.append_assoc]; rfl
      refine (turn _ L m b (e ▸ List.mem_append_right _ (.head _)) (List.mem_append_right _ (.head _)) fun q hq=>List.mem_append_right _ (.tail _ (.tail _ hq))).mono (fun ok σ₁ h₁=>?_) fun _ _ e=>e
      cases ok with
      | true =>
        refine T.mono h₁ (fun v σ₂ h₂=>⟨τ',⟨rfl,done ++ [b],rest,e',rfl,?_⟩,h₂.2⟩) fun _ _ e=>e
        rw [List.filterMap_append,List.filterMap_cons,h₂.1]; rfl
      | false =>
        have h₁:f b = none∧_:=h₁
        refine ⟨τ',⟨rfl,done ++ [b],rest,e',rfl,?_⟩,h₁.2⟩
        rw [List.filterMap_append,List.filterMap_cons,h₁.1]; exact (List.append_nil _).symm
  · obtain ⟨rfl,done,rest,e,hr,rfl⟩:=h
    have : rest = []:=List.map_eq_nil_iff.mp hr.symm
    subst this
    rw [List.append_nil] at e
    subst e
    exact fin
theorem T_comp1 {β:Type} {po:Nat→PO} {cl:List (Str × Addr)} {Q:Value→Led→Prop} {use:Option (Value→Sem Unit)} (bs:List β) (g:β→Value) (f:β→Option Value) (I:Its C prog w A it po (bs.map g) need) (hn:need τ) (hz:bs.length≤1000000)
    (hk:scope.kind = .function) (hx:scope.names.lookup x = some .local) (hcell:∀ y∈scope.names,y.2 ≠ .cell)
    (turn:∀ (σ₀:Led) (L:Addr) (m:List (Str × Value)) (b:β),b∈bs→(L,.ns ((x,g b)::m))∈σ₀→(∀ q∈τ,q∈σ₀)→T prog w C A σ₀ (tests ifs (compEnvC scope cl L env)) (fun ok σ₁ =>
      if ok = true then T prog w C A σ₁ (eval elt (compEnvC scope cl L env)) (fun v σ₂=>f b = some (er v)∧σ₀.Sublist σ₂) NoE else f b = none∧σ₀.Sublist σ₁) NoE)
    (fin:FinC prog w C A τ (.lst (bs.filterMap f)) Q E use) (hneed:∀ q τ,need τ→need (q::τ):=by intro _ _ h; first | exact .tail _ h | exact h) :
    CompT prog w C A ((it,po 0)::τ) env (.ListComp elt [⟨.Name x px,iter,ifs,0⟩] scope pos) scope cl (newList []) use Q E (.ref it) :=
  T_comp bs g f I hn hz hk hx hcell (fun D L b ys i m hb=>turn _ L m b hb (.tail _ (.head _)) fun q hq=>.tail _ (.tail _ (.tail _ hq))) fin hneed
theorem T_compPD {cl:List (Str × Addr)} {Q:Value→Led→Prop} {use:Option (Value→Sem Unit)} (I:DrwP C prog w A it po xs need) (hh:A.handled = none) (J:List (Value × Value)→List (Str × Value)→Led→Prop) (h0:J xs [] τ) (hn:∀ r ac τ,J r ac τ→need τ) (hsz:∀ r ac τ,J r ac τ→ac.length≤1000000)
    (hk:scope.kind = .function) (hx:scope.names.lookup x = some .local) (hy:scope.names.lookup y = some .local) (hcell:∀ y∈scope.names,y.2 ≠ .cell)
    (turn:∀ D L p r ac τ i m,J (p::r) ac τ→T prog w C A (po i ++ (L,.ns ((y,er p.2)::(x,er p.1)::m))::(D,dcp prog w ac)::τ) (eval kx (compEnvC scope cl L env)) (fun kv σ₁=>T prog w C A σ₁ (eval vx (compEnvC scope cl L env)) (fun vv σ₂ =>
      Ex3 fun k t τ'=>Al3 (kv = .str k t) (J r (stored ac k (er vv)) τ') ((po i ++ (L,.ns ((y,er p.2)::(x,er p.1)::m))::(D,dcp prog w ac)::τ').Sublist σ₂)) NoE) NoE)
    (fin:∀ ac τ,J [] ac τ→FinC prog w C A τ (dcp prog w ac) Q E use) (hneed:∀ q τ,need τ→need (q::τ)) :
    CompT prog w C A (po 0 ++ τ) env (dcP kx vx iter x y px py pt k [] scope pos) scope cl newDict use Q E (.ref it):=by
  intro s S
  unfold CompRestU
  refine wpAny_newObj_type ?_
  have S₁:=S.push (p:=dcp prog w []) (o:=emptyDict) dco_empty rfl s.toks
  generalize hD:s.heap.objs.size = D at S₁
  generalize hs₁:({ s with heap:=s.heap.push emptyDict,toks:=s.toks }:Shared) = s₁ at S₁
  refine wpAny_newFunctionEnv hcell (by intro y hy; simp at hy) (fun h₁ hns hsb=>?_) hk
  obtain ⟨oL,hoL,hpL⟩:=PO.of_ns (m:=[]) hns (fun x=>rfl)
  have kk:∀ b o,s₁.heap.get? b = some o→h₁.get? b = some o:=fun b o e=>hsb.extBut b o (Nat.ne_of_lt (Heap.lt_size e)) (Heap.get?_push_of_some _ e)
  have S₂:=S₁.grow kk (Nat.le_refl _) hoL hpL (s₁.toks + ([]:List (Str × Value)).length)
  generalize hL:s₁.heap.objs.size = L at *
  have S₃:=S₂.perm (σ':=po 0 ++ (L,.ns [])::(D,dcp prog w [])::τ) (by
    have:=(List.perm_append_comm (l₁:=[(L,PO.ns []),(D,dcp prog w [])]) (l₂:=po 0)).append_right τ
    rw [List.append_assoc,List.append_assoc] at this
    exact this)
  have hkx:(compEnvC scope cl L env).kindOf x = some .local:=lookup_relabel_local hx
  have hky:(compEnvC scope cl L env).kindOf y = some .local:=lookup_relabel_local hy
  have hkf:(compEnvC scope cl L env).scope.kind = .function:=by simp [compEnvC,relabel,hk]
  have loop:codeAny (model prog w) A (.compLoop (dcP kx vx iter x y px py pt k [] scope pos) 0 (.ref it) (.ref D) (compEnvC scope cl L env)) (compPost (model prog w) A (fun e s'=>∃ σ',E e σ'∧Sat C σ' s') use (fun v s'=>∃ σ',Q v σ'∧Sat C σ' s') (.ref D) L)
      { s₁ with heap:=h₁,toks:=s₁.toks + ([]:List (Str × Value)).length }:=by
    refine codeAny_loop rfl (fun n s'=>Ex5 fun i r ac τ m=>Al4 (n + i = xs.length) (r = xs.drop i) (J r ac τ) (Sat C (po i ++ (L,.ns m)::(D,dcp prog w ac)::τ) s')) (fun n s' hI=>?_) xs.length ⟨0,xs,[],τ,[],rfl,rfl,h0,S₃⟩
    obtain ⟨i,r,ac,τ,m,hi,rfl,hJ,S'⟩:=hI
    show wpAny _ A ((compTurn (dcP kx vx iter x y px py pt k [] scope pos) 0 (.ref it) (.ref D) (compEnvC scope cl L env)).onRaise (fun x=>do noteFrame x (compEnvC scope cl L env); theTreesLotGoes x)) _ _ s'
    refine wpAny_noted ?_
    rw [compTurn_dict]
    refine wpAny_bind (wpAny_standAt (wpAny_bind (wpAny_mono (I.step (Q:=fun r s₁=>match r with
      | none=>xs[i]? = none∧Sat C ((L,.ns m)::(D,dcp prog w ac)::τ) s₁
      | some v=>Ex3 fun p TT pre=>Al5 (xs[i]? = some p) (v = .ref TT) ((TT,PO.tup [p.1,p.2])∈pre ++ (L,.ns m)::(D,dcp prog w ac)::τ) ((po (i + 1)).Sublist pre) (Sat C (pre ++ (L,.ns m)::(D,dcp prog w ac)::τ) s₁)) (E:=fun _ _=>False) (es:=[.Name x px,.Name y py]) (k:=k) (pos:=pt) (hneed _ _ (hneed _ _ (hn _ _ _ hJ))) S' (fun hx s₁ S₁=>⟨hx,S₁⟩) fun p hx TT pre s₁ hT hsub S₁=>⟨p,TT,pre,hx,rfl,hT,hsub,S₁⟩) (fun r s₂ h₂=>?_) fun _ _ h=>h.elim)))
    cases r with
    | none =>
      obtain ⟨hx',S₂⟩:=h₂
      rw [List.drop_eq_nil_iff.mpr (List.getElem?_eq_none_iff.mp hx')] at hJ
      exact wpAny_pure ((fin _ _ hJ).post S₂)
    | some v =>
      refine wpAny_bind (wpAny_mono h₂ (fun _ s₃ h₃=>?_) fun _ _ h=>h.elim)
      obtain ⟨p,TT,pre,hx',rfl,hT,hsub,S₃⟩:=h₃
      have hlt:i < xs.length:=(List.getElem?_eq_some_iff.mp hx').1
      have hd:xs.drop i = p::xs.drop (i + 1):=by rw [List.drop_eq_getElem_cons hlt,(List.getElem?_eq_some_iff.mp hx').2]
      rw [hd] at hJ
      refine wpAny_bind (asg2 (env:=compEnvC scope cl L env) (τ':=(L,.ns ((y,er p.2)::(x,er p.1)::m))::(D,dcp prog w ac)::τ) hh hT hsub .head hkx hky hkf S₃ fun s₄ S₄=>?_)
      simp only [List.forIn_nil]
      refine wpAny_bind (wpAny_pure ?_)
      rw [if_pos rfl]
      refine wpAny_bind (wpAny_bind (T.kN (turn D L p _ ac τ (i + 1) m hJ) S₄ fun kv σ₅ s₅ h₅ S₅=>?_))
      refine wpAny_bind (wpAny_holding (T.kN h₅ S₅ fun vv σ₆ s₆ h₆ S₆=>?_))
      obtain ⟨kk,t,τ',rfl,hJ',hs⟩:=h₆
      refine wpAny_bind (wpAny_standAt (wpAny_holding ?_))
      refine dictSetP (S₆.sub hs) ((Upd.tail .head).app _) (hsz _ _ _ hJ) fun s₇ S₇=>?_
      exact wpAny_pure ⟨rfl,n - 1,by wtm_at "om", i + 1,_,_,τ',_,by wtm_at "om", rfl,hJ',S₇⟩
  exact codeAny_compStart_dict loop (I.self S₃ loop)
end
noncomputable def dceo (prog:Program) (w:World) (kvs:List (Str × Value)) (ep:Nat) (o:Obj):Prop :=
  o.ExactDict∧∃ es kv',o.data = .dict es ep∧KeysOf (PySem.strKind prog w) es∧Pairs (PySem.strKind prog w) es.toList kv'∧(kv'.map (·.1)).Nodup∧kv'.map er2 = kvs
noncomputable def dcpE (prog:Program) (w:World) (kvs:List (Str × Value)) (ep:Nat):PO:=.prd (dceo prog w kvs ep)
theorem dceo_dco {prog:Program} {w:World} {kvs:List (Str × Value)} {ep:Nat} {o:Obj} (h:dceo prog w kvs ep o):dco prog w kvs o:=let ⟨h1,es,kv',h2⟩:=h; ⟨h1,es,ep,kv',h2⟩
noncomputable def Wk (C:Cx) (σ σ':Led):Prop:=∀ s,Sat C σ s→Sat C σ' s
noncomputable def vwO (c:String) (d:Addr):PO:=.raw { cls:=.type c,data:=.fields #[.ref d] }
noncomputable def itm (d:Addr) (i n ep:Nat):PO:=.prd fun o=>∃ ok ov,o = { cls:=.type "dict_itemiterator", dict:=none,data:=.fields #[.none,.bool false,.ref d,.int i 0,.int n 0,.int ep 0,ok,ov],slots:=#[] }
theorem entry_itm_iter:entryFor table "dict_itemiterator.__iter__" = some Builtin.«dict_keyiterator.__iter__» :=
  entryFor_alias (id' := "dict_keyiterator.__iter__") (by kernel_rfl) (by first | rfl | decide +kernel | (unfold String.splitOn; simp +decide [String.splitOnAux])) (by decide +kernel) (by kernel_rfl)
section
variable {prog:Program} {w:World} {C:Cx} {A:Around} {σ σ' τ τ':Led} {s:Shared} {E:Value→Led→Prop} {d V it a:Addr} {kvs:List (Str × Value)} {ep:Nat} {p p' q q' r:PO} {oe oT:Obj}
theorem T.wk {α:Type} {t:Sem α} {Q:α→Led→Prop} (h:T prog w C A σ t (fun a σ'=>∃ σ'',Wk C σ' σ''∧Q a σ'') E):T prog w C A σ t Q E :=
  fun s S=>wpAny_mono (h s S) (fun _ _ ⟨_,⟨σ'',k,hq⟩,S'⟩=>⟨σ'',hq,k _ S'⟩) fun _ _ e=>e
theorem Upd.perm (U:Upd a p p' τ τ'):∃ r,τ.Perm ((a,p)::r)∧τ'.Perm ((a,p')::r):=by
  induction U with
  | @head r=>exact ⟨r,List.Perm.refl _,List.Perm.refl _⟩
  | @tail q _ _ _ ih =>
    obtain ⟨r,h1,h2⟩:=ih
    exact ⟨q::r,(h1.cons _).trans (List.Perm.swap _ _ _),(h2.cons _).trans (List.Perm.swap _ _ _)⟩
theorem Wk.upd (U:Upd a p p' τ τ') (h:∀ o,p.Of o→p'.Of o):Wk C τ τ':=fun s S=>by
  obtain ⟨r,h1,h2⟩:=U.perm
  exact ((S.perm h1).weak h).perm h2.symm
theorem Sat.updW (S:Sat C τ s) (U:Upd a p p' τ τ') (h:∀ o,s.heap.get? a = some o→p.Of o→p'.Of o):Sat C τ' s:=by
  obtain ⟨o,ho,hp⟩:=S.get U.mem
  exact S.set (h':=s.heap) U ⟨rfl,fun _ _=>rfl⟩ ho (h o ho hp) s.toks
theorem Sat.turn1 (S:Sat C ((it,q)::τ) s) {h':Heap} (hk:∀ b o,b ≠ it→s.heap.get? b = some o→h'.get? b = some o)
    (he:h'.get? it = some oe) (hpe:q'.Of oe) (hT:h'.get? s.heap.objs.size = some oT) (hpT:r.Of oT) (t:Nat) (ht:0 < t:=by wtm_at "r_pos") :
    Sat C ((s.heap.objs.size,r)::(it,q')::τ) { s with heap:=h',toks:=t }:=by
  have nd:=S.nd
  have li:=S.low _ (.head _)
  have k:∀ b o,b < C.h₀.objs.size→s.heap.get? b = some o→h'.get? b = some o:=fun b o hb=>hk b o (fun x=>Nat.lt_irrefl _ (Nat.lt_of_lt_of_le (x ▸ hb) li))
  rw [List.map_cons,List.nodup_cons] at nd
  obtain ⟨n2,n3⟩:=nd
  have hlt:∀ x∈τ.map (·.1),x < s.heap.objs.size:=fun x hx=>by
    obtain ⟨q,hq,rfl⟩:=List.mem_map.mp hx
    exact S.lt (p:=q.2) (.tail _ hq)
  have hilt:=S.lt (p:=q) (.head _)
  refine ⟨OldK.lowK S.old k,?_,fun x hx=>?_,fun x hx=>?_,?_,S.os,S.gens,S.gl,ht,fun x hx=>(S.lam x hx).step (fun o e=>k _ o (C.lamlow x hx) e)
    (fun b o hb=>hk b o (fun x=>hb (by rw [List.map_cons,x]; exact .head _))) fun c hc hn hm=>?_⟩
  · obtain ⟨mc,⟨oc,es,ep,hc,_⟩,_⟩:=C.lim
    exact (k _ _ C.low (S.stat.trans hc)).trans hc.symm
  · rcases List.mem_cons.mp hx with rfl | hx
    · exact ⟨_,hT,hpT⟩
    rcases List.mem_cons.mp hx with rfl | hx
    · exact ⟨_,he,hpe⟩
    obtain ⟨y,hy,h⟩:=S.led x (.tail _ hx)
    have hm:=List.mem_map_of_mem (f:=(·.1)) hx
    exact ⟨y,hk _ _ (fun z=>n2 (z ▸ hm)) hy,h⟩
  · rcases List.mem_cons.mp hx with rfl | hx
    · exact S.size
    rcases List.mem_cons.mp hx with rfl | hx
    · exact li
    exact S.low x (.tail _ hx)
  · rw [List.map_cons,List.map_cons,List.nodup_cons,List.nodup_cons]
    refine ⟨fun hm=>?_,n2,n3⟩
    rcases List.mem_cons.mp hm with h | hm
    · exact Nat.lt_irrefl _ (Nat.lt_of_lt_of_eq hilt h)
    · exact Nat.lt_irrefl _ (hlt _ hm)
  · rw [List.map_cons] at hn
    rw [List.map_cons,List.map_cons] at hm
    rcases List.mem_cons.mp hm with h | hm
    · exact Nat.lt_irrefl _ (Nat.lt_of_lt_of_eq hc h.symm)
    exact hn hm
theorem Sat.grows (S:Sat C σ s) {h':Heap} (k:∀ b o,s.heap.get? b = some o→h'.get? b = some o) (new:Led) (hn:(new.map (·.1)).Nodup) (ha:∀ p∈new,s.heap.objs.size≤p.1) (ho:∀ p∈new,∃ o,h'.get? p.1 = some o∧p.2.Of o) (t:Nat) (ht:0 < t:=by wtm_at "r_pos") :
    Sat C (new ++ σ) { s with heap:=h',toks:=t }:=by
  refine ⟨S.old.step_keeps k,?_,fun q hq=>?_,fun q hq=>?_,?_,S.os,S.gens,S.gl,ht,fun q hq=>(S.lam q hq).step (fun o e=>k _ o e) (fun b o _ e=>k b o e) fun c hc hn' hm=>by
    rw [List.map_append] at hm
    rcases List.mem_append.mp hm with hm | hm
    · obtain ⟨x,hx,rfl⟩:=List.mem_map.mp hm
      exact Nat.lt_irrefl _ (Nat.lt_of_lt_of_le hc (ha x hx))
    · exact hn' hm⟩
  · obtain ⟨mc,⟨oc,es,ep,hc,_⟩,_⟩:=C.lim
    exact (k _ _ (S.stat.trans hc)).trans hc.symm
  · rcases List.mem_append.mp hq with hq | hq
    · exact ho q hq
    · obtain ⟨x,hx,h⟩:=S.led q hq; exact ⟨x,k _ _ hx,h⟩
  · rcases List.mem_append.mp hq with hq | hq
    · exact Nat.le_trans S.size (ha q hq)
    · exact S.low q hq
  · rw [List.map_append,List.nodup_append]
    refine ⟨hn,S.nd,fun x hx y hy e=>?_⟩
    obtain ⟨u,hu,rfl⟩:=List.mem_map.mp hx
    obtain ⟨v,hv,rfl⟩:=List.mem_map.mp hy
    have:=S.lt (p:=v.2) hv
    exact Nat.lt_irrefl _ (Nat.lt_of_lt_of_le this (Nat.le_trans (ha u hu) (Nat.le_of_eq e)))
theorem Sat.dictE (S:Sat C σ s) (hd:(d,dcpE prog w kvs ep)∈σ):∃ kv',s.heap.DictAt (PySem.strKind prog w) d kv' ep∧kv'.map er2 = kvs:=by
  obtain ⟨o,ho,hex,es,kv',h1,h2,h3,h4,h5⟩:=S.get hd
  exact ⟨kv',⟨o,es,ho,hex,h1,h2,h3,h4⟩,h5⟩
theorem T_gmItems {pl:Sem Bool} {Q:Value × List Value→Led→Prop} (hd:(d,dcp prog w kvs)∈σ) (h:Q (.builtin "dict.items", [.ref d]) σ):T prog w C A σ (getMethod (.ref d) (Str.ofString "items") pl) Q E:=fun _ S=>by
  obtain ⟨kv',hD,e,hs⟩:=S.dict hd
  exact getMethod_builtin hD.typeIs PySem.F.plainAttrs_dict PySem.F.slot_dict_items PySem.F.type_dict_items hD.mapOf.noDict ⟨_,h,S⟩
theorem T_items {Q:Value→Led→Prop} (hd:(d,dcp prog w kvs)∈σ) (h:∀ V,Q (.ref V) ((V,vwO "dict_items" d)::σ)):T prog w C A σ (call (.builtin "dict.items") [.ref d]) Q E:=fun s S=>by
  obtain ⟨kv',hD,e,hs⟩:=S.dict hd
  exact call_meetsIn PySem.F.slot_dict_items hD.typeIs PySem.F.entry_dict_items (PySem.F.args_dict_items_1 _) (meets_dict_items (PySem.strKind prog w) d hs) ⟨⟨_,hD⟩,_,h _,S.push (p:=vwO "dict_items" d) rfl rfl s.toks⟩
theorem T_iterItems {Q:Value→Led→Prop} (hV:(V,vwO "dict_items" d)∈σ) (hd:(d,dcp prog w kvs)∈σ) (h:∀ it ep σ',Upd d (dcp prog w kvs) (dcpE prog w kvs ep) σ σ'→Q (.ref it) ((it,itm d 0 kvs.length ep)::σ')):T prog w C A σ (pyIter (.ref V)) Q E:=fun s S=>by
  obtain ⟨o,ho,hex,es,ep,kv',h1,h2,h3,h4,h5⟩:=S.get hd
  obtain ⟨ov,hov,e⟩:=S.get hV
  have e:ov = _:=e
  subst e
  have hm:s.heap.DictAt (PySem.strKind prog w) d kv' ep:=⟨o,es,ho,hex,h1,h2,h3,h4⟩
  have hl:kv'.length = kvs.length:=by rw [← h5,List.length_map]
  have up:∀ {σ:Led},(d,dcp prog w kvs)∈σ→∃ σ',Upd d (dcp prog w kvs) (dcpE prog w kvs ep) σ σ':=by
    intro σ hm
    induction σ with
    | nil=>cases hm
    | cons x r ih =>
      rcases List.mem_cons.mp hm with rfl | hm
      · exact ⟨_,.head⟩
      · obtain ⟨σ',U⟩:=ih hm; exact ⟨_,.tail U⟩
  obtain ⟨σ',U⟩:=up hd
  have S':Sat C σ' s:=S.updW U fun o' ho' _=>by
    rw [ho] at ho'; cases ho'
    exact ⟨hex,es,kv',h1,h2,h3,h4,h5⟩
  refine wpAny_pyIter_items ⟨_,hov,rfl,rfl⟩ hm ⟨_,h _ ep σ' U,S'.push (p:=itm d 0 kvs.length ep) ⟨.none,.none,?_⟩ rfl s.toks⟩
  rw [hl]; rfl
theorem drwD (hh:A.handled = none):DrwP C prog w A it (fun i=>[(it,itm d i kvs.length ep)]) (kvs.map fun p=>(.str p.1 0,p.2)) (fun τ=>(d,dcpE prog w kvs ep)∈τ) where
  step:=by
    intro i τ s Q E es k pos hd S h0 h1
    obtain ⟨kv',hm,h5⟩:=S.dictE (.tail _ hd)
    have hl:kv'.length = kvs.length:=by rw [← h5,List.length_map]
    obtain ⟨oi,hoi,ok,ov,e⟩:=S.get (.head _)
    subst e
    cases hx:kv'[i]? with
    | none =>
      refine wpAny_pyNext_items_end hh (by rw [hl]; exact hoi) hm hx fun h' hx'=>h0 ?_ _ (S.ext hx' s.toks)
      rw [List.getElem?_map,← h5,List.getElem?_map,hx]; rfl
    | some kv =>
      obtain ⟨k,v⟩:=kv
      refine wpAny_pyNext_items_item (by rw [hl]; exact hoi) hm hx fun key h' hk hit hT hz hkeep=>?_
      obtain ⟨t,rfl⟩:=strIs hk
      rw [hl] at hit
      have S₁:=S.turn1 (q':=.raw _) (r:=.tup [.str k 0,er v]) hkeep hit rfl hT ⟨_,_,rfl,rfl⟩ s.toks
      refine wpAny_letOwnedTupleGo_items hit fun h'' hit' hs'=>?_
      have S₂:=S₁.set (.tail (.head (p':=itm d (i + 1) kvs.length ep))) hs' hit' ⟨_,_,rfl⟩ s.toks
      exact h1 (.str k 0,er v) (by rw [List.getElem?_map,← h5,List.getElem?_map,hx]; rfl) _ [(s.heap.objs.size,PO.tup [.str k 0,er v]),(it,itm d (i + 1) kvs.length ep)] _ (.head _) (List.sublist_cons_self _ _) S₂
  self:=fun S h=>by
    obtain ⟨oi,hoi,ok,ov,e⟩:=S.get (.head _)
    subst e
    refine wpAny_pyIter_slot ⟨_,hoi,rfl⟩ PySem.F.slot_dict_itemiterator_iter (wpAny_call_entry PySem.F.slot_dict_itemiterator_iter ⟨_,hoi,rfl⟩ entry_itm_iter ?_ (PySem.F.args_dict_itemiterator_iter_1 _))
    show wpAny _ _ (ret (.ref it)) _ _ _
    exact wpAny_pure ⟨_,rfl, "dict_itemiterator", _,⟨_,hoi,rfl⟩,PySem.F.slot_dict_itemiterator_next.lookup,h⟩
end
section
variable {prog:Program} {w:World} {C:Cx} {A:Around} {σ σ' τ τ':Led} {s:Shared} {E:Value→Led→Prop} {d V it a D l:Addr} {kvs:List (Str × Value)} {ep:Nat}
noncomputable def atp (p:At × At):Value × Value:=(p.1.v,p.2.v)
theorem prs.tups {vs:List Value} {ps:List (At × At)} (h:prs τ vs (ps.map atp)):tups τ vs ps:=by
  induction ps generalizing vs with
  | nil=>cases h; exact .nil
  | cons p r ih =>
    cases h with
    | cons h1 h2=>exact .cons h1 (ih h2)
theorem prs.pick {vs:List Value} {ps:List (Value × Value)} (h:prs τ vs ps):∀ {p:List Nat} {qs:List (Value × Value)},p.map (ps[·]?) = qs.map some→prs τ (p.map fun i=>vs.getD i .none) qs
  | [],[],_=>.nil
  | [],_::_,e=>by cases e
  | _::_,[],e=>by cases e
  | i::p,q::qs,e=>by
    rw [List.map_cons,List.map_cons] at e
    injection e with e1 e2
    rw [List.map_cons]
    have:=h.at (i:=i)
    cases hv:vs[i]? with
    | none=>rw [this.1 hv] at e1; cases e1
    | some v =>
      obtain ⟨a,q',rfl,hq,hm⟩:=this.2 v hv
      rw [hq] at e1
      injection e1 with e1
      subst e1
      rw [List.getD_eq_getElem?_getD,hv]
      exact .cons hm (prs.pick h e2)
theorem srt_pairs {vs:List Value} {ps:List (At × At)} {p:List Nat} (h:prs τ vs (ps.map atp)) (hp:Srt (plc (lex At.lt At.lt) ps) ps.length p) :
    ∃ qs:List (At × At),qs.Perm ps∧qs.Pairwise (fun a b=>lex At.lt At.lt a b = true)∧prs τ (p.map fun i=>vs.getD i .none) (qs.map atp):=by
  obtain ⟨qs,h1,h2,h3⟩:=srt_list hp
  refine ⟨qs,h2,h3,h.pick ?_⟩
  have e:∀ (p:List Nat) (qs:List (At × At)),p.map (ps[·]?) = qs.map some→p.map ((ps.map atp)[·]?) = (qs.map atp).map some:=by
    intro p
    induction p with
    | nil=>intro qs h; cases qs with | nil=>rfl | cons _ _=>cases h
    | cons i r ih =>
      intro qs h
      cases qs with
      | nil=>cases h
      | cons q qs =>
        rw [List.map_cons,List.map_cons] at h
        injection h with h1 h2
        rw [List.map_cons,List.map_cons,List.map_cons,ih qs h2,List.getElem?_map,h1]; rfl
  exact e p qs h1
theorem at_ord:Ord1 At.lt where
  tr:=fun {a b c} h1 h2=>by
    cases a <;> cases b <;> cases c <;> simp only [At.lt,decide_eq_true_eq] at * <;> first | cases h1; done | cases h2; done | skip
    · exact List.lt_trans h1 h2
    · wtm_at "om"
  as:=fun {a b} h=>by
    cases a <;> cases b <;> simp only [At.lt,decide_eq_true_eq,decide_eq_false_iff_not] at * <;> first | cases h; done | skip
    · exact fun h2=>List.lt_irrefl _ (List.lt_trans h h2)
    · wtm_at "om"
theorem at_tot {a b:At} (hs:At.same a b = true) (h:a ≠ b):At.lt a b = true ∨ At.lt b a = true:=by
  cases a <;> cases b <;> first | cases hs; done | skip
  · exact bef_tot fun e=>h (by rw [e])
  · simp only [At.lt,decide_eq_true_eq]
    rename_i m n
    have : m ≠ n:=fun e=>h (by rw [e])
    wtm_at "om"
theorem pairs_so {ps:List (At × At)} (K:Kin1 ps) (nd:ps.Nodup):SO (plc (lex At.lt At.lt) ps) ps.length:=by
  refine so_of (lex_ord at_ord at_ord) (fun a ha b hb h=>?_) nd
  obtain ⟨k1,k2⟩:=K a ha b hb
  obtain ⟨k3,k4⟩:=K b hb a ha
  unfold lex
  by_cases e:a.1 = b.1
  · rw [if_pos e,if_pos e.symm]
    exact at_tot k2 fun e2=>h (Prod.ext e e2)
  · rw [if_neg e,if_neg fun x=>e x.symm]
    exact at_tot k1 e
theorem T_lsortP' {Q:Value→Led→Prop} {vs:List Value} {τ₀:Led} {ps:List (At × At)} (K:Kin1 ps) (nd:ps.Nodup) (hne:ps ≠ []) (h64:ps.length < 64) (hp:prs τ₀ vs (ps.map atp)) (h0:∀ x∈τ₀,x∈τ)
    (h:∀ vs' (qs:List (At × At)),qs.Perm ps→qs.Pairwise (fun a b=>lex At.lt At.lt a b = true)→prs τ₀ vs' (qs.map atp)→Q .none ((l,.lst vs')::τ)):T prog w C A ((l,.lst vs)::τ) (call (.builtin "list.sort") [.ref l]) Q E:=by
  have hl:vs.length = ps.length:=by rw [hp.len,List.length_map]
  have up:∀ po,tups ((l,po)::τ) vs ps:=fun po=>(hp.mono fun x hx=>List.Mem.tail (l,po) (h0 x hx)).tups
  refine T_lsort (κ:=tuples' true) (lt:=plc (lex At.lt At.lt) ps) (by wtm_at "om") (hl ▸ pairs_so K nd) (fun po vs₁ e=>pair_knd K hne (up po) e) (fun po vs₁ e=>pair_cmp' K (up po) e) fun p hs=>?_
  obtain ⟨qs,h1,h2,h3⟩:=srt_pairs hp (hl ▸ hs)
  exact h _ qs h1 h2 h3
theorem T_sortedP {Q:Value→Led→Prop} {vs:List Value} {ps:List (At × At)} (hm:(l,.lst vs)∈σ) (K:Kin1 ps) (nd:ps.Nodup) (hne:ps ≠ []) (h64:ps.length < 64) (hp:prs σ vs (ps.map atp))
    (h:∀ D vs' (qs:List (At × At)),qs.Perm ps→qs.Pairwise (fun a b=>lex At.lt At.lt a b = true)→prs σ vs' (qs.map atp)→Q (.ref D) ((D,.lst vs')::σ)):T prog w C A σ (call (.builtin "sorted") [.ref l]) Q E:=by
  have hl:vs.length = ps.length:=by rw [hp.len,List.length_map]
  have up:∀ D po,tups ((D,po)::σ) vs ps:=fun D po=>(hp.mono fun x hx=>List.Mem.tail (D,po) hx).tups
  refine T_sortedL (κ:=tuples' true) (lt:=plc (lex At.lt At.lt) ps) hm (by wtm_at "om") (hl ▸ pairs_so K nd) (fun D po vs₁ e=>pair_knd K hne (up D po) e) (fun D po vs₁ e=>pair_cmp' K (up D po) e) fun D p hs=>?_
  obtain ⟨qs,h1,h2,h3⟩:=srt_pairs hp (hl ▸ hs)
  exact h D _ qs h1 h2 h3
theorem T_sortedV {Q:Value→Led→Prop} {ps:List (At × At)} (hV:(V,vwO "dict_items" d)∈σ) (hd:(d,dcp prog w kvs)∈σ) (hps:ps.map atp = kvs.map fun p=>(.str p.1 0,p.2)) (hh:A.handled = none) (K:Kin1 ps) (nd:ps.Nodup) (hne:ps ≠ []) (h64:ps.length < 64)
    (h:∀ D new vs' (qs:List (At × At)),qs.Perm ps→qs.Pairwise (fun a b=>lex At.lt At.lt a b = true)→prs new vs' (qs.map atp)→Q (.ref D) ((D,.lst vs')::(new ++ σ))):T prog w C A σ (call (.builtin "sorted") [.ref V]) Q E:=by
  intro s S
  obtain ⟨kv',ep,hm,hkv,hs⟩:=S.dictAt hd
  obtain ⟨ov,hov,e⟩:=S.get hV
  have e:ov = _:=e
  subst e
  have hlk:kv'.length = ps.length:=by
    have:=congrArg List.length hps
    rw [List.length_map,List.length_map] at this
    rw [this,← hkv,List.length_map]
  refine Calls.call_function_entry kind_sorted plain_sorted entry_sorted (args_sorted1 _) ?_
  unfold Builtin.«sorted»
  refine wpAny_bind (m:=checkCount "sorted" 1 1 _) (wpAny_pure ?_)
  refine wpAny_bind (withTk (kdx_collect hh ⟨_,hov,rfl,rfl⟩ hm (by rw [sizeLine_eq]; wtm_at "om") fun h' tk as k hl g htk=>?_) S.tk)
  obtain ⟨new,hn⟩:∃ new:Led,new = List.zipWith (fun a p=>(a,PO.tup [.str p.1 0,er p.2])) as kv':=⟨_,rfl⟩
  have hkeys:new.map (·.1) = as:=by
    rw [hn]
    have : ∀ (as:List Addr) (kv:List (Str × Value)),as.length = kv.length→(List.zipWith (fun a p=>(a,PO.tup [.str p.1 0,er p.2])) as kv).map (·.1) = as:=by
      intro as
      induction as with
      | nil=>intro kv _; rfl
      | cons a r ih =>
        intro kv h
        cases kv with
        | nil=>cases h
        | cons p q=>rw [List.zipWith_cons_cons,List.map_cons,ih q (Nat.succ.inj h)]
    exact this as kv' hl
  have S₁:=S.grows (h':=h') k new (by rw [hkeys]; exact g.rise.imp fun h=>Nat.ne_of_lt h) (fun p hp=>by
    have:=List.mem_map_of_mem (f:=(·.1)) hp
    rw [hkeys] at this
    exact Nat.le_of_lt (g.above _ this)) (fun p hp=>by
    rw [hn] at hp
    obtain ⟨j,hj,rfl⟩:=List.mem_iff_getElem.mp hp
    rw [List.length_zipWith] at hj
    rw [List.getElem_zipWith]
    obtain ⟨key,kk,x,e1,e2,e3⟩:=g.pairs j as[j] (List.getElem?_eq_getElem (by wtm_at "om"))
    rw [List.getElem?_eq_getElem (by wtm_at "om")] at e1
    injection e1 with e1
    obtain ⟨t,rfl⟩:=strIs e2
    exact ⟨_,e3,#[.str kk t,x],0,rfl,by rw [e1]; rfl⟩) tk htk
  have hprs:prs new (as.map Value.ref) (ps.map atp):=by
    rw [hps,← hkv,List.map_map,hn]
    have : ∀ (as:List Addr) (kv:List (Str × Value)) (τ:Led),as.length = kv.length→(∀ x∈List.zipWith (fun a p=>(a,PO.tup [.str p.1 0,er p.2])) as kv,x∈τ)→prs τ (as.map Value.ref) (kv.map ((fun p:Str × Value=>((Value.str p.1 0,p.2):Value × Value)) ∘ er2)):=by
      intro as
      induction as with
      | nil=>intro kv τ h _; cases kv with | nil=>exact .nil | cons _ _=>cases h
      | cons a r ih =>
        intro kv τ h hx
        cases kv with
        | nil=>cases h
        | cons p q =>
          rw [List.zipWith_cons_cons] at hx
          exact .cons (hx _ (.head _)) (ih q τ (Nat.succ.inj h) fun x hx'=>hx x (.tail _ hx'))
    exact this as kv' _ hl fun x hx=>hx
  have hvl:(as.map Value.ref).length = ps.length:=by rw [List.length_map,hl,hlk]
  refine wpAny_bind (wpAny_newList ?_ (by rw [hvl,sizeLine_eq]; wtm_at "om"))
  generalize hs₁:({ s with heap:=h',toks:=tk }:Shared) = s₁ at S₁
  have S₂:=S₁.push (p:=.raw (seqObj "list" (as.map Value.ref).toArray 0)) (o:=seqObj "list" (as.map Value.ref).toArray 0) rfl rfl s₁.toks
  have e1:h' = s₁.heap:=by rw [← hs₁]
  subst hs₁
  generalize h'.objs.size = D at S₂ ⊢
  obtain ⟨o,hoD,q⟩:=S₂.get (.head _)
  have q:o = _:=q
  subst q
  have up:∀ po,tups ((D,po)::(new ++ σ)) (as.map Value.ref) ps:=fun po=>(hprs.mono fun x hx=>.tail _ (List.mem_append_left _ hx)).tups
  refine wpAny_bind (wpAny_holding (wpAny_call_entry slot_list_sort ⟨_,hoD,rfl⟩ entry_list_sort ?_ (args_list_sort _)))
  have em:(as.map Value.ref).map er = as.map Value.ref:=by rw [List.map_map]; exact List.map_congr_left fun _ _=>rfl
  refine lsort (vs:=as.map Value.ref) (κ:=tuples' true) (lt:=plc (lex At.lt At.lt) ps) (by wtm_at "om") (hvl ▸ pairs_so K nd) S₂ (fun po=>pair_knd K hne (up po) em) (fun po=>pair_cmp' K (up po) em) fun p s' hp S'=>⟨_,rfl,wpAny_pure ⟨_,rfl,?_⟩⟩
  obtain ⟨qs,h1,h2,h3⟩:=srt_pairs hprs (hvl ▸ hp)
  refine ⟨_,h D new _ qs h1 h2 h3,?_⟩
  rw [map_er,em] at S'
  exact S'
end
theorem fm_one {α:Type} {f:Nat→Option α} {i:Nat} {c:α} (hi:f i = some c) (hf:∀ j,j ≠ i→f j = none):∀ n,i < n→(List.range n).filterMap f = [c]
  | 0,h=>absurd h (Nat.not_lt_zero _)
  | n + 1,h=>by
    rw [List.range_succ,List.filterMap_append]
    by_cases e:i = n
    · subst e
      have : (List.range i).filterMap f = []:=by
        rw [List.filterMap_eq_nil_iff]
        intro j hj
        exact hf j (by have:=List.mem_range.mp hj; wtm_at "om")
      rw [this,List.nil_append,List.filterMap_cons,hi]; rfl
    · rw [fm_one hi hf n (by wtm_at "om"),List.filterMap_cons,hf n (fun q=>e q.symm)]; rfl
theorem free1 {mask f i p:Nat} (hi:i≤mask):SetTable.layClean.free mask (Array.replicate (mask + 1) none) (f + 1) i p = some i:=by
  show (match (List.range (SetTable.runEnd mask i + 1 - i)).find? (fun k=>((Array.replicate (mask + 1) (none:Option Nat)).getD (i + k) (some 0)).isNone) with
    | some k=>some (i + k)
    | none=>SetTable.layClean.free mask (Array.replicate (mask + 1) none) f (SetTable.leap mask i p).1 (SetTable.leap mask i p).2) = some i
  have h1:SetTable.runEnd mask i + 1 - i = (SetTable.runEnd mask i - i) + 1:=by unfold SetTable.runEnd; split <;> wtm_at "om"
  have h2:(List.range (SetTable.runEnd mask i + 1 - i)).find? (fun k=>((Array.replicate (mask + 1) (none:Option Nat)).getD (i + k) (some 0)).isNone) = some 0:=by
    rw [h1,List.range_succ_eq_map,List.find?_cons]
    have : ((Array.replicate (mask + 1) (none:Option Nat)).getD (i + 0) (some 0)).isNone = true:=by
      simp [Array.getD,show i < mask + 1 by wtm_at "om"]
    rw [this]
  rw [h2]
  rfl
theorem laid1 {mask finger moves:Nat} {led plain:Bool} {h:Int}:SetTable.laid mask finger moves led plain #[h] = some ({ mask,place:=#[SetTable.bits h % (mask + 1)],dummies:=#[],finger,led,moves,plain },#[0]):=by
  have hi:SetTable.bits h % (mask + 1) < mask + 1:=Nat.mod_lt _ (Nat.succ_pos _)
  have e:SetTable.layClean mask #[h] = some ((Array.replicate (mask + 1) none).setIfInBounds (SetTable.bits h % (mask + 1)) (some 0)):=by
    show Option.map (·.1) (SetTable.layClean.free mask (Array.replicate (mask + 1) none) (SetTable.turns mask) (SetTable.bits h % (mask + 1)) (SetTable.bits h) >>= fun j=>some ((Array.replicate (mask + 1) none).setIfInBounds j (some 0),0 + 1)) = _
    rw [show SetTable.turns mask = (mask + 14) + 1 from rfl,free1 (by wtm_at "om")]
    rfl
  unfold SetTable.laid
  rw [e]
  have hl:(List.range (mask + 1)).filterMap (fun j=>(((Array.replicate (mask + 1) (none:Option Nat)).setIfInBounds (SetTable.bits h % (mask + 1)) (some 0)).getD j none).map (j,·)) = [(SetTable.bits h % (mask + 1),0)]:=by
    refine fm_one (i:=SetTable.bits h % (mask + 1)) ?_ (fun j hj=>?_) _ hi
    · rw [Array.getD_eq_getD_getElem?,Array.getElem?_setIfInBounds_self_of_lt (by simpa using hi)]; rfl
    · rw [Array.getD_eq_getD_getElem?,Array.getElem?_setIfInBounds_ne (fun q=>hj q.symm)]
      by_cases hm:j < mask + 1
      · rw [Array.getElem?_replicate,if_pos hm]; rfl
      · rw [Array.getElem?_replicate,if_neg hm]; rfl
  show some (({ mask,place:=(((List.range (mask + 1)).filterMap (fun j=>(((Array.replicate (mask + 1) (none:Option Nat)).setIfInBounds (SetTable.bits h % (mask + 1)) (some 0)).getD j none).map (j,·))).map (·.1)).toArray,dummies:=#[],finger,led,moves,plain }:SetTable),(((List.range (mask + 1)).filterMap (fun j=>(((Array.replicate (mask + 1) (none:Option Nat)).setIfInBounds (SetTable.bits h % (mask + 1)) (some 0)).getD j none).map (j,·))).map (·.2)).toArray) = _
  rw [hl]
  rfl
section
variable {prog:Program} {w:World} {C:Cx} {A:Around} {σ σ' τ τ':Led} {s:Shared} {E:Value→Led→Prop} {d V it a D l:Addr} {kvs:List (Str × Value)} {ep:Nat} {env:Env} {y:Str}
theorem roomOne {n:Nat} {Q:Unit→Shared→Prop} {E:Value→Shared→Prop} (S:Sat C ((D,sps prog w [y])::τ) s) (hn:n < 1000) (h:∀ s',Sat C ((D,sps prog w [y])::τ) s'→Q () s'):wpAny (model prog w) A (setRoomFor D n) Q E s:=by
  obtain ⟨oS,hoS,hex,es,ep,tb,hd,hel,hpm,hnd,hf,hled,hpl,hdum,hful⟩:=S.get (.head _)
  have hsz:es.size = 1:=by have:=hpm.length_eq; simpa using this
  unfold setRoomFor
  refine wpAny_bind (wpAny_setState_of hoS hd hf ?_)
  dsimp only
  cases hr:tb.roomFor n with
  | none=>exact wpAny_pure (h _ S)
  | some wanted =>
    have hw:wanted = (1 + n) * 2:=by
      unfold SetTable.roomFor at hr
      split at hr
      · injection hr with hr
        unfold SetTable.fits at hf
        rw [Bool.and_eq_true,beq_iff_eq] at hf
        rw [← hr,hf.1,hsz]
      · cases hr
    dsimp only
    unfold setRelay
    refine wpAny_bind (wpAny_setState_of hoS hd hf ?_)
    dsimp only
    have hsa:∀ (f sz n:Nat),8≤sz→sz≤8 * 2 ^ 12→n < 4096→8≤SetTable.sizeAbove.go n f sz∧SetTable.sizeAbove.go n f sz≤8 * 2 ^ 13:=by
      intro f
      induction f with
      | zero=>intro sz n h1 h2 _; exact ⟨h1,Nat.le_trans h2 (by decide)⟩
      | succ f ih =>
        intro sz n h1 h2 h3
        unfold SetTable.sizeAbove.go
        split
        · rename_i hc
          have : sz * 2≤8 * 2 ^ 12:=by wtm_at "om"
          exact ih (sz * 2) n (by wtm_at "om") this h3
        · exact ⟨h1,Nat.le_trans h2 (by decide)⟩
    obtain ⟨b1,b2⟩:=hsa 64 8 wanted (Nat.le_refl _) (by decide) (by wtm_at "om")
    have b1:8≤SetTable.sizeAbove wanted:=b1
    have b2:SetTable.sizeAbove wanted≤8 * 2 ^ 13:=b2
    rw [if_neg (by rw [sizeLine_eq]; wtm_at "om")]
    obtain ⟨el⟩:=es
    have hel1:el.length = 1:=hsz
    obtain ⟨e,rfl⟩:=List.length_eq_one_iff.mp hel1
    obtain ⟨t₂,ht₂⟩:∃ t₂:SetTable,t₂ = { mask:=SetTable.sizeAbove wanted - 1,place:=#[SetTable.bits e.1 % (SetTable.sizeAbove wanted - 1 + 1)],dummies:=#[],finger:=tb.finger,led:=tb.led,moves:=tb.movedTo (SetTable.sizeAbove wanted - 1),plain:=tb.plain }:=⟨_,rfl⟩
    have hrel:tb.relaid ((⟨[e]⟩:Array (Int × Value)).map (·.1)) wanted = some (t₂,#[0]):=by
      rw [ht₂]
      unfold SetTable.relaid
      have : (⟨[e]⟩:Array (Int × Value)).map (·.1) = #[e.1]:=by simp
      rw [this]
      exact laid1
    rw [hrel]
    have hof:(#[0]:Array Nat).filterMap ((⟨[e]⟩:Array (Int × Value))[·]?) = ⟨[e]⟩:=by simp
    refine wpAny_bind ?_
    show wpAny (model prog w) A (if (((#[0]:Array Nat).filterMap ((⟨[e]⟩:Array (Int × Value))[·]?)).size != (⟨[e]⟩:Array (Int × Value)).size) = true then (do unsupported "internal:set-table-lost-an-element"; Pure.pure ((#[0]:Array Nat).filterMap ((⟨[e]⟩:Array (Int × Value))[·]?),t₂):Sem (Array (Int × Value) × SetTable)) else Pure.pure ((#[0]:Array Nat).filterMap ((⟨[e]⟩:Array (Int × Value))[·]?),t₂)) _ _ _
    rw [hof,if_neg (by simp)]
    refine wpAny_pure ?_
    dsimp only
    refine wpAny_storeSet_of hoS hd ?_ (by show 1≤_; rw [sizeLine_eq]; decide)
    have hft:t₂.fits (⟨[e]⟩:Array (Int × Value)).size = true:=by
      rw [ht₂]
      show ((1 == 1) && decide (1 + 0≤SetTable.sizeAbove wanted - 1)) = true
      rw [decide_eq_true (by wtm_at "om")]; rfl
    have hg:=(SetOf_store (knd:=PySem.strKind prog w) (S':=fun k=>decide (∃ x∈(⟨[e]⟩:Array (Int × Value)).toList,(PySem.strKind prog w).is k x.2 = true)) hoS hex hd hel (fun k=>by rw [decide_eq_true_eq]) (by show 1 < 4096; decide) hft).1
    refine h _ (S.set (.head (p':=sps prog w [y])) (Heap.SameBut.update ..) hg ⟨hex,⟨[e]⟩,_,_,rfl,hel,hpm,hnd,hft,by rw [ht₂]; exact hled,fun q=>?_,by rw [ht₂],?_⟩ s.toks)
    · rw [ht₂] at q; exact hpl q
    · rw [ht₂]
      show decide (_ ≥ _) = false
      rw [decide_eq_false_iff_not]
      show ¬ ((1 + 0) * 5 ≥ (SetTable.sizeAbove wanted - 1) * 3)
      wtm_at "om"
theorem keysAt {kv':List (Str × Value)} (e:kv'.map er2 = kvs):kv'.map (·.1) = kvs.map (·.1):=by rw [← e,List.map_map]; exact List.map_congr_left fun _ _=>rfl
theorem addKey {k:Str} {t:Tok} {ys:List Str} {Q:Bool→Shared→Prop} {E:Value→Shared→Prop} (S:Sat C ((D,sps prog w ys)::τ) s) (hk:k ∉ ys) (hz:ys.length < 3000) (h:∀ b s',Sat C ((D,sps prog w (ys ++ [k]))::τ) s'→Q b s') :
    wpAny (model prog w) A (setAddHashed D (.str k t) ((PySem.strKind prog w).hash k)) Q E s:=setAddP S (by rw [if_neg hk]; exact .head) hz h
theorem starN {Q:Unit→Shared→Prop} {E:Value→Shared→Prop} (S:Sat C ((D,sps prog w [y])::(d,dcpE prog w kvs ep)::τ) s) (hy:y ∉ kvs.map (·.1)) (hz:kvs.length < 900) (hh:A.handled = none)
    (h:∀ s',Sat C ((D,sps prog w (y::kvs.map (·.1)))::(d,dcpE prog w kvs ep)::τ) s'→Q () s'):wpAny (model prog w) A (setDisplayStar D (.ref d)) Q E s:=by
  obtain ⟨kv',hA,hkv⟩:=S.dictE (.tail _ (.head _))
  have hsm:(d == sysModules) = false:=by
    have:=S.low _ (.tail _ (.head _))
    have h6:=C.low
    refine beq_eq_false_iff_ne.mpr fun e=>?_
    have e1:sysModules < cStatics:=by decide
    have e2:d < cStatics:=e ▸ e1
    exact Nat.lt_asymm (Nat.lt_of_lt_of_le h6 this) e2
  have hT:s.TypeIs (.ref d) "dict" := hA.dictOf.typeIs
  have hl:kv'.length = kvs.length:=by rw [← hkv,List.length_map]
  have hks:=keysAt hkv
  have hnd:(kvs.map (·.1)).Nodup:=by rw [← hks]; exact hA.nodup
  have fresh:∀ i (hi:i < kv'.length),(kv'[i]).1 ∉ y::(kvs.map (·.1)).take i:=fun i hi hm=>by
    have hi':i < (kvs.map (·.1)).length:=by rw [List.length_map]; wtm_at "om"
    have e1:(kv'[i]).1 = (kvs.map (·.1))[i]:=by
      have : (kv'.map (·.1))[i]? = (kvs.map (·.1))[i]?:=by rw [hks]
      rw [List.getElem?_eq_getElem hi',List.getElem?_map,List.getElem?_eq_getElem hi] at this
      injection this
    rw [e1] at hm
    rcases List.mem_cons.mp hm with e | hm
    · exact hy (e ▸ List.getElem_mem hi')
    · obtain ⟨j,hj,e⟩:=List.mem_iff_getElem.mp hm
      rw [List.length_take] at hj
      rw [List.getElem_take] at e
      have:=(List.getElem_inj hnd).mp e
      wtm_at "om"
  have next:∀ i (hi:i < kv'.length),y::(kvs.map (·.1)).take i ++ [(kv'[i]).1] = y::(kvs.map (·.1)).take (i + 1):=fun i hi=>by
    have hi':i < (kvs.map (·.1)).length:=by rw [List.length_map]; wtm_at "om"
    have e1:(kv'[i]).1 = (kvs.map (·.1))[i]:=by
      have : (kv'.map (·.1))[i]? = (kvs.map (·.1))[i]?:=by rw [hks]
      rw [List.getElem?_eq_getElem hi',List.getElem?_map,List.getElem?_eq_getElem hi] at this
      injection this
    rw [e1,List.take_add_one,List.getElem?_eq_getElem hi']; rfl
  have all:∀ {s'},Sat C ((D,sps prog w (y::(kvs.map (·.1)).take kv'.length))::(d,dcpE prog w kvs ep)::τ) s'→Q () s':=fun {s'} S'=>by
    rw [List.take_of_length_le (by rw [List.length_map]; wtm_at "om")] at S'
    exact h s' S'
  unfold setDisplayStar
  refine wpAny_bind (wpAny_isInstance (T := "dict") (b:=false) hT (by rw [isSubtype_type]; kernel_rfl) ?_)
  rw [if_neg Bool.false_ne_true]
  refine wpAny_bind (wpAny_isInstance (T := "dict") (b:=false) hT (by rw [isSubtype_type]; kernel_rfl) ?_)
  refine wpAny_bind (wpAny_askSetting ?_)
  dsimp only
  have one:y::(kvs.map (·.1)).take 0 = [y]:=rfl
  cases hbt:(model prog w).w.params.followText "set-display-star-reads-storage" with
  | true =>
    rw [if_pos rfl]
    dsimp only
    refine wpAny_bind (wpAny_pyIter_dict hsm hA ?_)
    have S₁:=S.push (p:=.prd fun o=>o.cls = .type "dict_keyiterator" ∧ o.data = .fields #[.ref d,.int 0 0,.int kv'.length 0,.int ep 0]) (o:={ cls:=.type "dict_keyiterator", data:=.fields #[.ref d,.int 0 0,.int kv'.length 0,.int ep 0] }) ⟨rfl,rfl⟩ rfl s.toks
    generalize hit:s.heap.objs.size = it at S₁ ⊢
    refine wpAny_bind (wpAny_runValue ?_)
    have loop:∀ (R:Result→Shared→Prop),(∀ s',Sat C ((D,sps prog w (y::(kvs.map (·.1)).take kv'.length))::(d,dcpE prog w kvs ep)::τ) s'→R (.ok (.ret .none)) s')→∀ n i s',n + i = kv'.length→Sat C ((it,.prd fun o=>o.cls = .type "dict_keyiterator" ∧ o.data = .fields #[.ref d,.int i 0,.int kv'.length 0,.int ep 0])::(D,sps prog w (y::(kvs.map (·.1)).take i))::(d,dcpE prog w kvs ep)::τ) s' →
        wpAny (model prog w) A.in1 (Builtin.«set.update.loop» ⟨[.ref D,.ref it],[]⟩) (fun fin s'=>match fin with | .done f=>R (.ok f) s' | .again c'=>c'.quiet = true∧codeAny (model prog w) A c' R s') (fun e s'=>R (.error e) s') s':=by
      intro R hR n
      induction n with
      | zero =>
        intro i s' hi S'
        obtain ⟨oi,hoi,hci,hdi⟩:=S'.get (.head _)
        obtain ⟨kv₂,hA₂,hkv₂⟩:=S'.dictE (.tail _ (.tail _ (.head _)))
        have hl₂:kv₂.length = kv'.length:=by rw [hl,← hkv₂,List.length_map]
        show wpAny _ _ (pyNext (.ref it) >>= _) _ _ _
        refine wpAny_bind (wpAny_pyNext_dict_end (i:=i) hh ⟨oi,hoi,hci,by rw [hl₂]; exact hdi⟩ hA₂ (List.getElem?_eq_none (by wtm_at "om")) fun h' hx=>?_)
        have S₂:=S'.ext hx s'.toks
        rw [show i = kv'.length by wtm_at "om"] at S₂
        exact wpAny_pure (hR _ S₂)
      | succ n ih =>
        intro i s' hi S'
        obtain ⟨oi,hoi,hci,hdi⟩:=S'.get (.head _)
        obtain ⟨kv₂,hA₂,hkv₂⟩:=S'.dictE (.tail _ (.tail _ (.head _)))
        have hl₂:kv₂.length = kv'.length:=by rw [hl,← hkv₂,List.length_map]
        have hi':i < kv'.length:=by wtm_at "om"
        obtain ⟨v,hx⟩:∃ v,kv₂[i]? = some ((kv'[i]).1,v):=by
          have : (kv₂.map (·.1))[i]? = (kv'.map (·.1))[i]?:=by rw [keysAt hkv₂,hks]
          rw [List.getElem?_map,List.getElem?_map,List.getElem?_eq_getElem hi'] at this
          cases hq:kv₂[i]? with
          | none=>rw [hq] at this; cases this
          | some q=>rw [hq] at this; injection this with this; exact ⟨q.2,by have this:q.1 = (kv'[i]).1:=this; rw [← this]⟩
        show wpAny _ _ (pyNext (.ref it) >>= _) _ _ _
        refine wpAny_bind (wpAny_pyNext_dict_item (i:=i) ⟨oi,hoi,hci,by rw [hl₂]; exact hdi⟩ hA₂ hx fun key h' hk hit' hs'=>?_)
        obtain ⟨t,rfl⟩:=strIs hk
        obtain ⟨o',ho',hc',hd'⟩:=hit'
        have S₂:=(S'.set (.head (p':=.prd fun o=>o.cls = .type "dict_keyiterator" ∧ o.data = .fields #[.ref d,.int ((i + 1:Nat):Int) 0,.int kv'.length 0,.int ep 0])) hs' ho' ⟨hc',by rw [hd',hl₂]⟩ s'.toks).perm (List.Perm.swap _ _ _)
        show wpAny _ _ (holding [_] (setAdd D _) >>= _) _ _ _
        refine wpAny_bind (wpAny_holding ?_)
        unfold setAdd
        refine wpAny_holding (wpAny_bind ((PySem.strKind prog w).pyHash (k:=(kv'[i]).1) (strKind_is ..) ?_))
        have S₃:=S₂.tok (s'.toks + 1)
        refine addKey (k:=(kv'[i]).1) S₃ (fresh i hi') (by rw [List.length_cons,List.length_take,List.length_map]; wtm_at "om") fun b s₄ S₄=>?_
        rw [next i hi'] at S₄
        refine wpAny_pure ⟨plainId_quiet F.plain_set_update_loop _,codeAny_builtin F.entry_set_update_loop ?_⟩
        rw [Around.under_plainId F.plain_set_update_loop _]
        exact ih (i + 1) s₄ (by wtm_at "om") (S₄.perm (List.Perm.swap _ _ _))
    refine codeAny_mono (codeAny_builtin F.entry_set_update_loop (R:=fun r s'=>r = .ok (.ret .none)∧Sat C ((D,sps prog w (y::(kvs.map (·.1)).take kv'.length))::(d,dcpE prog w kvs ep)::τ) s') ?_) fun r s' hr=>?_
    · rw [Around.under_plainId F.plain_set_update_loop _]
      exact loop (fun r s'=>r = .ok (.ret .none)∧Sat C ((D,sps prog w (y::(kvs.map (·.1)).take kv'.length))::(d,dcpE prog w kvs ep)::τ) s') (fun s' S'=>⟨rfl,S'⟩) kv'.length 0 _ rfl S₁
    · obtain ⟨rfl,S'⟩:=hr
      exact wpAny_pure (all S')
  | false =>
    rw [if_neg Bool.false_ne_true]
    dsimp only
    rw [if_neg Bool.false_ne_true]
    refine wpAny_bind (wpAny_typeOf hT ?_)
    rw [if_pos (by rfl)]
    obtain ⟨od,es,hod,hex,hdat,hk,hp,hn⟩:=id hA
    have hes:es.size = kv'.length:=by have:=hp.length; rw [Array.length_toList] at this; exact this
    refine wpAny_bind (wpAny_rule ?_)
    rw [if_neg (by rw [hsm]; exact Bool.false_ne_true)]
    refine wpAny_bind (wpAny_dictEpoch hod hdat ?_)
    refine wpAny_bind (wpAny_dictEntries hod hdat ?_)
    refine wpAny_bind (roomOne S (by wtm_at "om") fun s₁ S₁=>?_)
    rw [Std.Legacy.Range.forIn_eq_forIn_range']
    have hsz:([:es.size]:Std.Legacy.Range).size = kv'.length:=by simp [Std.Legacy.Range.size,hes]
    show wpAny _ _ (forIn (List.range' 0 ([:es.size]:Std.Legacy.Range).size 1) PUnit.unit _ >>= _) _ _ s₁
    rw [hsz]
    refine wpAny_bind (wpAny_forIn_list _ (fun rest _ s'=>∃ i,Al3 (rest = List.range' i (kv'.length - i)) (i≤kv'.length) (Sat C ((D,sps prog w (y::(kvs.map (·.1)).take i))::(d,dcpE prog w kvs ep)::τ) s')) (fun _ s'=>wpAny (model prog w) A (Pure.pure ()) Q E s') ?turn ?fin _ _ ?h)
    case h=>exact ⟨0,rfl,Nat.zero_le _,S₁⟩
    case fin =>
      rintro _ s' ⟨i,hr,hi,S'⟩
      have : kv'.length - i = 0:=by
        have:=congrArg List.length hr
        rw [List.length_range'] at this
        exact this.symm
      rw [show i = kv'.length by wtm_at "om"] at S'
      exact wpAny_pure (all S')
    case turn =>
      rintro j rest _ s' ⟨i,hr,hi,S'⟩
      obtain ⟨n,hn'⟩:∃ n,kv'.length - i = n + 1:=by
        cases h:kv'.length - i with
        | zero=>rw [h] at hr; cases hr
        | succ n=>exact ⟨n,rfl⟩
      rw [hn',List.range'_succ] at hr
      injection hr with e1 e2
      subst e1
      obtain ⟨o₂,ho₂,hex₂,es₂,kv₂,hd₂,hk₂,hp₂,hn₂,hkv₂⟩:=S'.get (.tail _ (.head _))
      have hl₂:es₂.size = kv'.length:=by rw [← Array.length_toList,hp₂.length,hl,← hkv₂,List.length_map]
      have hj:j < kv'.length:=by wtm_at "om"
      refine wpAny_bind (wpAny_dictEntries ho₂ hd₂ ?_)
      rw [show es₂[j]? = some (es₂[j]'(by wtm_at "om")) from Array.getElem?_eq_getElem (by wtm_at "om")]
      dsimp only
      have hke:(es₂[j]'(by wtm_at "om")).hash = (PySem.strKind prog w).hash (kv'[j]).1∧∃ t,(es₂[j]'(by wtm_at "om")).key = .str (kv'[j]).1 t:=by
        obtain ⟨k,h1,h2⟩:=hk₂ (es₂[j]'(by wtm_at "om")) (Array.getElem_mem _)
        obtain ⟨v,hx⟩:∃ v,kv₂[j]? = some ((kv'[j]).1,v):=by
          have : (kv₂.map (·.1))[j]? = (kv'.map (·.1))[j]?:=by rw [keysAt hkv₂,hks]
          rw [List.getElem?_map,List.getElem?_map,List.getElem?_eq_getElem hj] at this
          cases hq:kv₂[j]? with
          | none=>rw [hq] at this; cases this
          | some q=>rw [hq] at this; injection this with this; exact ⟨q.2,by have this:q.1 = (kv'[j]).1:=this; rw [← this]⟩
        have h3:=(hp₂.get? (i:=j) (by rw [Array.getElem?_toList,Array.getElem?_eq_getElem (by wtm_at "om")]) hx).1
        obtain ⟨t,ht⟩:=strIs h3
        obtain ⟨t',ht'⟩:=strIs h1
        rw [ht] at ht'
        injection ht' with ht'
        exact ⟨by rw [h2,ht'],t,ht⟩
      obtain ⟨hh',t,hkey⟩:=hke
      rw [hh',hkey]
      refine wpAny_bind (wpAny_holding (wpAny_bind (addKey (k:=(kv'[j]).1) S' (fresh j hj) (by rw [List.length_cons,List.length_take,List.length_map]; wtm_at "om") fun b s₄ S₄=>wpAny_pure ?_)))
      rw [next j hj] at S₄
      obtain ⟨o₃,ho₃,hex₃,es₃,kv₃,hd₃,_⟩:=S₄.get (.tail _ (.head _))
      refine wpAny_bind (wpAny_dictEpoch ho₃ hd₃ ?_)
      rw [if_neg (by simp)]
      exact wpAny_pure ⟨j + 1,by rw [show kv'.length - (j + 1) = n by wtm_at "om"]; exact e2.symm ▸ rfl,by wtm_at "om", S₄⟩
end
section
variable {prog:Program} {w:World} {C:Cx} {A:Around} {σ σ' τ τ':Led} {s:Shared} {E:Value→Led→Prop} {d V it a D l:Addr} {kvs:List (Str × Value)} {ep:Nat} {env:Env} {y k:Str} {t u:Tok}
theorem T_SetStarN {e x:Expr} {kk:Nat} {p pos:Pos} {Q:Value→Led→Prop} (hc:kdsCode C.K env.code = true) (hk:kk = 0)
    (h:∀ D,T prog w C A ((D,sps prog w [])::σ) (eval e env) (fun v σ₁=>Ex3 fun y t σ₂=>Al3 (v = .str y t) (Upd D (sps prog w []) (sps prog w [y]) σ₁ σ₂) (T prog w C A σ₂ (eval x env) (fun v σ₃=>Ex3 fun d kvs τ=>Al5 (v = .ref d) (σ₃.Perm ((D,sps prog w [y])::(d,dcp prog w kvs)::τ)) (y ∉ kvs.map (·.1)) (kvs.length < 900) (Q (.ref D) ((D,sps prog w (y::kvs.map (·.1)))::(d,dcp prog w kvs)::τ))) E)) E)
    (hh:A.handled = none) (he:starEach [e,.Starred x p] env = [(false,eval e env),(true,eval x env)]:=by rfl):T prog w C A σ (eval (.Set [e,.Starred x p] kk pos) env) Q E:=fun s S=>by
  subst hk
  rw [arm_eval_Set,he]
  refine wpAny_bind (wpAny_standAt (wpAny_bind (kds_main S.kin hc fun b=>?_)))
  show wpAny _ _ (setDisplay .oneByOne b [(false,do let v ← eval e env; standAt pos; pure v),(true,do let v ← eval x env; standAt pos; pure v)]) _ _ s
  unfold setDisplay
  rw [if_neg (by decide)]
  refine wpAny_bind (newSetP S fun D s₁ S₁=>?_)
  dsimp only
  refine wpAny_bind (wpAny_holding ?_)
  show wpAny _ _ (evalAll [do let v ← eval e env; standAt pos; pure v] >>= _) _ _ s₁
  refine wpAny_bind ?_
  unfold evalAll
  refine wpAny_bind (wpAny_bind ((h D).k S₁ fun v σ₁ s₂ hv S₂=>?_))
  obtain ⟨y,t,σ₂,rfl,U,h₂⟩:=hv
  refine wpAny_bind (wpAny_standAt (wpAny_pure (wpAny_bind (wpAny_holding ?_))))
  unfold evalAll
  refine wpAny_pure (wpAny_pure ?_)
  refine wpAny_bind (wpAny_holding ?_)
  refine wpAny_bind ?_
  rw [List.forIn_cons]
  refine wpAny_bind ?_
  unfold setAdd
  refine wpAny_bind (wpAny_holding (wpAny_bind ((PySem.strKind prog w).pyHash (k:=y) (strKind_is ..) ?_)))
  refine setAddP (xs:=[]) (x:=y) (S₂.tok (s₂.toks + 1)) (by rw [if_neg (by simp)]; exact U) (by decide) fun b s₃ S₃=>?_
  refine wpAny_pure ?_
  show wpAny _ _ (forIn ([]:List Value) PUnit.unit _) _ _ _
  rw [List.forIn_nil]
  refine wpAny_pure ?_
  rw [if_neg (by decide)]
  refine wpAny_pure ?_
  refine wpAny_bind ?_
  show wpAny _ _ (forIn [(true,do let v ← eval x env; standAt pos; pure v)] PUnit.unit _) _ _ s₃
  rw [List.forIn_cons]
  refine wpAny_bind ?_
  refine wpAny_bind (wpAny_bind (h₂.k S₃ fun v σ₃ s₄ hv S₄=>?_))
  obtain ⟨d,kvs,τ,rfl,hperm,hy,hz,hq⟩:=hv
  refine wpAny_bind (wpAny_standAt (wpAny_pure ?_))
  rw [if_pos rfl]
  refine wpAny_bind (wpAny_holding ?_)
  have S₅:=S₄.perm hperm
  obtain ⟨o,ho,hex,es,ep,kv',h1,h3⟩:=S₅.get (.tail _ (.head _))
  have S₆:=S₅.updW (p':=dcpE prog w kvs ep) (.tail .head) fun o' ho' _=>by
    rw [ho] at ho'; cases ho'
    exact ⟨hex,es,kv',h1,h3⟩
  refine starN S₆ hy hz hh fun s₇ S₇=>?_
  refine wpAny_pure ?_
  show wpAny _ _ (forIn ([]:List (Bool × Sem Value)) PUnit.unit _) _ _ _
  rw [List.forIn_nil]
  exact wpAny_pure (wpAny_pure (wpAny_pure ⟨_,hq,Wk.upd (p:=dcpE prog w kvs ep) (p':=dcp prog w kvs) (.tail .head) (fun o (ho:dceo prog w kvs ep o)=>dceo_dco ho) _ S₇⟩))
theorem T_getDfl {pv x:Value} {Q:Value→Led→Prop} (hd:(d,dcp prog w kvs)∈σ) (hv:(valueAt kvs k).getD (er x) = pv) (h:∀ v,er v = pv→Q v σ):T prog w C A σ (call (.builtin "dict.get") [.ref d,.str k t,x]) Q E:=fun _ S=>by
  obtain ⟨kv',hD,e,hs⟩:=S.dict hd
  have hva:=valueAt_er kv' k
  rw [e] at hva
  refine call_meetsIn PySem.F.slot_dict_get hD.typeIs PySem.F.entry_dict_get (PySem.F.args_dict_get_3 _ _ _) (meets_dict_get_default (knd:=PySem.strKind prog w) (k:=k) (d:=d) (strKind_is ..) hs x) ⟨_,hD.mapOf,?_⟩
  refine ⟨_,h _ ?_,S.tok _⟩
  rw [← hv,← hva]
  cases valueAt kv' k <;> rfl
theorem T_inD {Q:Value→Led→Prop} (hd:(d,dcp prog w kvs)∈σ) (h:Q (.bool (valueAt kvs k).isSome) σ):T prog w C A σ (compareOp .In (.str k t) (.ref d)) Q E:=fun _ S=>by
  obtain ⟨kv',hD,e,hs⟩:=S.dict hd
  have hva:=valueAt_er kv' k
  rw [e] at hva
  refine wpAny_in_of (knd:=PySem.strKind prog w) (k:=k) (strKind_is ..) hs hD.mapOf ⟨_,?_,S.tok _⟩
  rw [← hva,Option.isSome_map] at h
  exact h
theorem T_lenD {Q:Value→Led→Prop} (hd:(d,dcp prog w kvs)∈σ) (hz:kvs.length≤1000000) (h:∀ t,Q (.int kvs.length t) σ):T prog w C A σ (call (.builtin "len") [.ref d]) Q E:=fun _ S=>by
  obtain ⟨kv',hD,e,hs⟩:=S.dict hd
  have hl:kv'.length = kvs.length:=by rw [← e,List.length_map]
  refine call_len_dict hs hD (by wtm_at "om") ?_
  rw [hl]
  exact ⟨_,h _,(S.tok _).tok _⟩
theorem T_setItemD {v:Value} {Q:Unit→Led→Prop} (U:Upd d (dcp prog w kvs) (dcp prog w (stored kvs k (er v))) σ σ') (hz:kvs.length≤1000000) (h:Q () σ'):T prog w C A σ (setItem (.ref d) (.str k t) v) Q E:=fun s S=>by
  obtain ⟨kv',hD,e,hs⟩:=S.dict U.mem
  unfold setItem
  try with_reducible refine wpAny_holding ?_
  first | refine wpAny_bind (wpAny_pure ?_) | skip
  refine wpAny_bind (wpAny_sequenceKey hD.typeIs (by decide) ?_)
  refine wpAny_bind (wpAny_callSpecial?_slot (name:=Str.ofString "__setitem__") hD.typeIs slot_dict_setitem
    (wpAny_call_entry slot_dict_setitem hD.typeIs entry_dict_setitem ?_ (args_dict_setitem _ _ _)))
  show wpAny _ _ (Builtin.Dict.notOrdered "__setitem__" ⟨[.ref d,.str k t,v],[]⟩ >>= _) _ _ s
  refine wpAny_bind (wpAny_notOrdered_dict hD.typeIs ?_)
  show wpAny _ _ (dictSet d (.str k t) v >>= _) _ _ s
  exact wpAny_bind (dictSetP S U hz fun s' S'=>wpAny_pure ⟨.none,rfl,wpAny_pure ⟨_,h,S'⟩⟩)
theorem T_assignSub {o i:Expr} {pos:Pos} {v:Value} {Q:Unit→Led→Prop} (h:T prog w C A σ (eval o env) (fun ov σ₁=>T prog w C A σ₁ (eval i env) (fun iv σ₂=>T prog w C A σ₂ (setItem ov iv v) Q E) E) E):T prog w C A σ (assign (.Subscript o i pos) env v) Q E:=fun s S=>by
  rw [assign_Subscript]
  refine wpAny_bind (wpAny_holding (h.k S fun ov σ₁ s₁ h₁ S₁=>?_))
  refine wpAny_bind (wpAny_holding (h₁.k S₁ fun iv σ₂ s₂ h₂ S₂=>?_))
  refine wpAny_bind (wpAny_standAt (wpAny_bind (wpAny_holding (h₂.k S₂ fun _ σ₃ s₃ h₃ S₃=>?_))))
  exact wpAny_release ⟨_,h₃,S₃⟩
theorem T_AssignSub {o i value:Expr} {pos' pos:Pos} {Q:Flow→Led→Prop} (h:T prog w C A σ (eval value env) (fun v σ₀=>T prog w C A σ₀ (eval o env) (fun ov σ₁=>T prog w C A σ₁ (eval i env) (fun iv σ₂=>T prog w C A σ₂ (setItem ov iv v) (fun _=>Q .next) E) E) E) E)
    (hs:swapsWith value (some (.Subscript o i pos')) pos.line env = Pure.pure false:=by with_unfolding_all rfl):T prog w C A σ (exec (.Assign [.Subscript o i pos'] value pos) env) Q E:=fun _ S =>
  wpAny_Assign_Subscript (h.k S fun _ _ _ h S=>h.k S fun _ _ _ h S=>h.k S fun _ _ _ h S=>h.k S fun _ _ _ h S=>⟨_,h,S⟩) hs
theorem T_assign2 {t₁ t₂:Expr} {v:Value} {Q:Unit→Led→Prop} (h:T prog w C A σ (assign t₁ env v) (fun _ σ₁=>T prog w C A σ₁ (assign t₂ env v) Q E) E) (he:(assignEach [t₁,t₂] env).map (·.2) = [assign t₁ env,assign t₂ env]):T prog w C A σ (assignAll v ((assignEach [t₁,t₂] env).map (·.2))) Q E:=fun s S=>by
  rw [he]
  show wpAny _ _ (holding [v] (assign t₁ env v) >>= fun _=>assign t₂ env v) _ _ s
  exact wpAny_bind (wpAny_holding (h.k S fun _ σ₁ s₁ h₁ S₁=>h₁ s₁ S₁))
theorem items_of {α:Type} {f:α→Value} {ys:List α} {acc:Array Value} {n:Nat} (hn:ys.length = n) (h:ItemsOf (fun i v=>∃ a,ys[i]? = some a∧er v = f a) acc n):acc.toList.map er = ys.map f:=by
  obtain ⟨h1,h2⟩:=h
  apply List.ext_getElem?
  intro i
  rw [List.getElem?_map,List.getElem?_map,Array.getElem?_toList]
  cases hv:acc[i]? with
  | none =>
    rw [Array.getElem?_eq_none_iff] at hv
    rw [List.getElem?_eq_none (by wtm_at "om")]; rfl
  | some v =>
    obtain ⟨a,ha,he⟩:=h2 i v hv
    rw [ha,Option.map_some,Option.map_some,he]
theorem T_listD {Q:Value→Led→Prop} (hd:(d,dcp prog w kvs)∈σ) (hh:A.handled = none) (hz:kvs.length≤1000000) (h:∀ D,Q (.ref D) ((D,.lst (txts (kvs.map (·.1))))::σ)):T prog w C A σ (call (.type "list") [.ref d]) Q E:=fun s S=>by
  obtain ⟨kv',ep,hA,e,hs⟩:=S.dictAt hd
  have hl:kv'.length = kvs.length:=by rw [← e,List.length_map]
  refine withTk (kdl_call (kdl_dict (knd:=PySem.strKind prog w) (kvs:=kv') (ep:=ep) hs) hh hA (by rw [sizeLine_eq]; wtm_at "om") fun h' tk acc c hk hS hi htk=>?_) S.tk
  refine ⟨_,h _,S.grow (p:=.lst _) hk (Nat.le_refl _) hS ⟨acc,c,rfl,?_⟩ tk htk⟩
  have:=items_of (f:=fun p:Str × Value=>Value.str p.1 0) (ys:=kv') rfl ⟨hi.1,fun j v hv=>by
    obtain ⟨k,x,hx,hkk⟩:=hi.2 j v hv
    obtain ⟨t,rfl⟩:=strIs hkk
    exact ⟨_,hx,rfl⟩⟩
  rw [this,← e,txts,List.map_map,List.map_map]
  exact List.map_congr_left fun _ _=>rfl
theorem T_gmValues {pl:Sem Bool} {Q:Value × List Value→Led→Prop} (hd:(d,dcp prog w kvs)∈σ) (h:Q (.builtin "dict.values", [.ref d]) σ):T prog w C A σ (getMethod (.ref d) (Str.ofString "values") pl) Q E:=fun _ S=>by
  obtain ⟨kv',hD,e,hs⟩:=S.dict hd
  exact getMethod_builtin hD.typeIs PySem.F.plainAttrs_dict PySem.F.slot_dict_values PySem.F.type_dict_values hD.mapOf.noDict ⟨_,h,S⟩
theorem T_values {Q:Value→Led→Prop} (hd:(d,dcp prog w kvs)∈σ) (h:∀ V,Q (.ref V) ((V,vwO "dict_values" d)::σ)):T prog w C A σ (call (.builtin "dict.values") [.ref d]) Q E:=fun s S=>by
  obtain ⟨kv',hD,e,hs⟩:=S.dict hd
  exact call_meetsIn PySem.F.slot_dict_values hD.typeIs PySem.F.entry_dict_values (PySem.F.args_dict_values_1 _) (meets_dict_values (PySem.strKind prog w) d hs) ⟨⟨_,hD⟩,_,h _,S.push (p:=vwO "dict_values" d) rfl rfl s.toks⟩
theorem T_listVals {Q:Value→Led→Prop} (hV:(V,vwO "dict_values" d)∈σ) (hd:(d,dcp prog w kvs)∈σ) (hh:A.handled = none) (hz:kvs.length≤1000000) (h:∀ D,Q (.ref D) ((D,.lst (kvs.map (·.2)))::σ)):T prog w C A σ (call (.type "list") [.ref V]) Q E:=fun s S=>by
  obtain ⟨kv',ep,hA,e,hs⟩:=S.dictAt hd
  obtain ⟨ov,hov,e2⟩:=S.get hV
  have e2:ov = _:=e2
  subst e2
  have hl:kv'.length = kvs.length:=by rw [← e,List.length_map]
  refine withTk (kdl_call (kdl_values (knd:=PySem.strKind prog w) (kvs:=kv') (ep:=ep) (r:=V)) hh ⟨⟨_,hov,rfl,rfl⟩,hA⟩ (by rw [sizeLine_eq]; wtm_at "om") fun h' tk acc c hk hS hi htk=>?_) S.tk
  refine ⟨_,h _,S.grow (p:=.lst _) hk (Nat.le_refl _) hS ⟨acc,c,rfl,?_⟩ tk htk⟩
  have:=items_of (f:=fun p:Str × Value=>er p.2) (ys:=kv') rfl ⟨hi.1,fun j v hv=>by
    obtain ⟨k,hx⟩:=hi.2 j v hv
    exact ⟨_,hx,rfl⟩⟩
  rw [this,← e,List.map_map]
  exact List.map_congr_left fun _ _=>rfl
end
section
variable {prog:Program} {w:World} {C:Cx} {A:Around} {σ σ' τ τ':Led} {s:Shared} {E:Value→Led→Prop} {d V it a D l:Addr} {kvs:List (Str × Value)} {env:Env} {x y:Str} {t u v:Tok} {k:Int} {pl:Sem Bool}
theorem rsplitMS {Q:Value→Shared→Prop} (S:Sat C σ s) (hy:(y.length == 0) = false) (hk:(decide (k < -(2 ^ 63:Int)) || decide (k ≥ 2 ^ 63)) = false) (hx:x.length≤1000000) (hn:(Txt.rsplitMax x y k).length≤1000000)
    (h:∀ D s',Sat C ((D,.lst (txts (Txt.rsplitMax x y k)))::σ) s'→Q (.ref D) s'):wpAny (model prog w) A (call (.builtin "str.rsplit") [.str x t,.str y u,.int k v]) Q (fun _ _=>False) s:=by
  have hsz:x.length≤sizeLine:=by rw [sizeLine_eq]; wtm_at "om"
  have key:∀ (l:List (Str × Tok)) k',l.map (·.1) = Txt.rsplitMax x y k→0 < k'→Q (.ref s.heap.objs.size) { s with toks:=k',heap:=s.heap.push { cls:=.type "list", data:=.seq (strValues l).toArray } }   := fun l k' e hk=>by
    refine h _ _ (S.push (p:=.lst _) ⟨_,0,rfl,?_⟩ rfl k')
    rw [strs_er,e]
  cases h1:(decide (x.length < y.length) || decide (Builtin.Str.strKind x < Builtin.Str.strKind y))
  · cases hf:(Builtin.Str.occurrencesFromRight x y (limitOf x k)).isEmpty
    · have hn2:(Builtin.Str.partsBetween x (Builtin.Str.occurrencesFromRight x y (limitOf x k)) y.length).length≤sizeLine:=by
        have e:Txt.rsplitMax x y k = _:=(if_neg (ne_true_of_eq_false h1)).trans (if_neg (ne_true_of_eq_false hf))
        rw [← e,sizeLine_eq]; wtm_at "om"
      refine call_meets F.slot_str_rsplit (typeIs_str _ _ _) F.entry_str_rsplit (F.args_str_rsplit_3 _ _ _) (meets_str_rsplit_sep_max x y k t u v hk h1 hy hf hsz hn2) ?_
      show wants Q _ _ { s with toks:=_,heap:=s.heap.push { cls:=.type "list", data:=.seq (strsFrom s.toks (Builtin.Str.partsBetween x (Builtin.Str.occurrencesFromRight x y (limitOf x k)) y.length)).toArray } }
      rw [strsFrom_eq]
      exact key (numbered s.toks _) _ ((numbered_texts _ _).trans ((if_neg (ne_true_of_eq_false h1)).trans (if_neg (ne_true_of_eq_false hf))).symm) (by wtm_at "r_pos")
    · exact call_meets F.slot_str_rsplit (typeIs_str _ _ _) F.entry_str_rsplit (F.args_str_rsplit_3 _ _ _) (meets_str_rsplit_max_not_found x y k t u v hk h1 hy hf)
        (key [(x,t)] _ ((if_neg (ne_true_of_eq_false h1)).trans (if_pos hf)).symm (by wtm_at "r_pos"))
  · exact call_meets F.slot_str_rsplit (typeIs_str _ _ _) F.entry_str_rsplit (F.args_str_rsplit_3 _ _ _) (meets_str_rsplit_max_cannot_occur x y k t u v hk h1)
      (key [(x,t)] _ (if_pos h1).symm (by wtm_at "r_pos"))
theorem T_rsplitM {Q:Value→Led→Prop} (hy:(y.length == 0) = false) (hk:(decide (k < -(2 ^ 63:Int)) || decide (k ≥ 2 ^ 63)) = false) (hx:x.length≤1000000) (hn:(Txt.rsplitMax x y k).length≤1000000)
    (h:∀ D,Q (.ref D) ((D,.lst (txts (Txt.rsplitMax x y k)))::σ)):T prog w C A σ (call (.builtin "str.rsplit") [.str x t,.str y u,.int k v]) Q E:=fun _ S =>
  wpAny_mono (rsplitMS (Q:=fun v s'=>∃ σ',Q v σ'∧Sat C σ' s') S hy hk hx hn fun D _ S'=>⟨_,h D,S'⟩) (fun _ _ h=>h) fun _ _ h=>h.elim
theorem T_gmRsplit {Q:Value × List Value→Led→Prop} (h:Q (.builtin "str.rsplit", [.str x t]) σ):T prog w C A σ (getMethod (.str x t) (Str.ofString "rsplit") pl) Q E:=fun _ S=>GM.rsplit ⟨_,h,S⟩
theorem T_gmStarts {Q:Value × List Value→Led→Prop} (h:Q (.builtin "str.startswith", [.str x t]) σ):T prog w C A σ (getMethod (.str x t) (Str.ofString "startswith") pl) Q E:=fun _ S=>GM.startswith ⟨_,h,S⟩
theorem T_starts {Q:Value→Led→Prop} (h:Q (.bool (Txt.startswith x y)) σ):T prog w C A σ (call (.builtin "str.startswith") [.str x t,.str y u]) Q E:=fun _ S=>SC.startswith ⟨_,h,S⟩
theorem T_intS {n:Int} {Q:Value→Led→Prop} (hn:PySem.intText? x = some n) (hl:x.length≤640) (h:∀ t,Q (.int n t) σ):T prog w C A σ (call (.type "int") [.str x t]) Q E:=fun _ S=>KIN.call_text hn hl ⟨_,h _,S.tok _⟩
theorem T_strI {n:Nat} {Q:Value→Led→Prop} (hn:n < 1000000) (h:∀ t,Q (.str (Str.ofString (toString (n:Int))) t) σ):T prog w C A σ (call (.type "str") [.int n t]) Q E:=fun _ S =>
  PySem.P.str_of_int (shown (N:=2 ^ 100) (by wtm_at "om") (by wtm_at "om") (by decide +kernel)) ⟨_,h _,S.tok _⟩
theorem T_fvI {n:Nat} {Q:Value→Led→Prop} (hn:n < 1000000) (h:∀ t,Q (.str (Str.ofString (toString (n:Int))) t) σ):T prog w C A σ (formatField (.int n t) Str.empty) Q E:=fun _ S =>
  wpAny_formatField_int (shown (N:=2 ^ 100) (by wtm_at "om") (by wtm_at "om") (by decide +kernel)) ⟨_,h _,(S.tok _).tok _⟩
noncomputable abbrev cS (x:Str) (k:Nat) (p:Pos):Expr:=.Constant (.str x) k p
theorem T_Dict3 {a1 a2 a3 b1 b2 b3:Str} {k1 k2 k3 l1 l2 l3:Nat} {p1 p2 p3 q1 q2 q3 pos:Pos} {Q:Value→Led→Prop} (h12:a1 ≠ a2) (h13:a1 ≠ a3) (h23:a2 ≠ a3) (h:∀ D,Q (.ref D) ((D,dcp prog w [(a1,.str b1 0),(a2,.str b2 0),(a3,.str b3 0)])::σ)) :
    T prog w C A σ (eval (.Dict [some (cS a1 k1 p1),some (cS a2 k2 p2),some (cS a3 k3 p3)] [cS b1 l1 q1,cS b2 l2 q2,cS b3 l3 q3] pos) env) Q E:=fun s S=>by
  refine wpAny_Dict_pairs (knd:=PySem.strKind prog w) (pairs:=[(eval (cS a1 k1 p1) env,do let x ← eval (cS b1 l1 q1) env; standAt pos; Pure.pure x),(eval (cS a2 k2 p2) env,do let x ← eval (cS b2 l2 q2) env; standAt pos; Pure.pure x),(eval (cS a3 k3 p3) env,do let x ← eval (cS b3 l3 q3) env; standAt pos; Pure.pure x)]) rfl (by simp) (by simp) ?_
  have S₁:=S.push (p:=dcp prog w []) (o:=emptyDict) dco_empty rfl s.toks
  generalize hD:s.heap.objs.size = D at S₁ ⊢
  have step:∀ {ka:Str} {kk:Nat} {pk:Pos} {vb:Str} {kv:Nat} {pv:Pos} {rest:List (Sem Value × Sem Value)} {Q':List (Value × Value)→Shared→Prop} {s':Shared},Sat C ((D,dcp prog w [])::σ) s' →
      (∀ t t' s'',Sat C ((D,dcp prog w [])::σ) s''→s''.heap = s'.heap→wpAny (model prog w) A (evalPairs rest) (fun vs s₃=>Q' ((.str ka t,.str vb t')::vs) s₃) (fun e s'=>∃ σ',E e σ'∧Sat C σ' s') s'') →
      wpAny (model prog w) A (evalPairs ((eval (cS ka kk pk) env,do let x ← eval (cS vb kv pv) env; standAt pos; Pure.pure x)::rest)) Q' (fun e s'=>∃ σ',E e σ'∧Sat C σ' s') s':=by
    intro ka kk pk vb kv pv rest Q' s' S' k
    refine evalPairs_cons (wpAny_Constant_str (wpAny_bind (wpAny_Constant_str (wpAny_bind (wpAny_standAt (wpAny_pure ?_))))))
    exact k _ _ _ ((S'.tok (s'.toks + 1)).tok (s'.toks + 1 + 1)) rfl
  refine step S₁ fun t1 u1 s2 S2 e2=>step S2 fun t2 u2 s3 S3 e3=>step S3 fun t3 u3 s4 S4 e4=>evalPairs_nil ?_
  obtain ⟨kv',hDo,hkv,_⟩:=S4.dict (.head _)
  have hkv:kv' = []:=List.map_eq_nil_iff.mp hkv
  subst hkv
  refine ⟨[(a1,.str b1 u1),(a2,.str b2 u2),(a3,.str b3 u3)],⟨strKind_is ..,rfl,strKind_is ..,rfl,strKind_is ..,rfl,trivial⟩,hDo,fun h' hd' hs'=>?_⟩
  obtain ⟨o,ho,hp⟩:=dco_of hd'
  have hm:(merged [] [(a1,Value.str b1 u1),(a2,.str b2 u2),(a3,.str b3 u3)]).map er2 = [(a1,.str b1 0),(a2,.str b2 0),(a3,.str b3 0)]:=by
    simp [merged,stored,h12,h13,h23,er2,er]
  rw [hm] at hp
  exact ⟨_,h D,S4.set (.head (p':=dcp prog w [(a1,.str b1 0),(a2,.str b2 0),(a3,.str b3 0)])) hs' ho hp _⟩
end
theorem At.v_inj {a b:At} (h:a.v = b.v):a = b:=by
  cases a <;> cases b <;> simp only [At.v,Value.str.injEq,Value.int.injEq,reduceCtorEq] at h <;> first | rw [h.1] | cases h
section
variable {prog:Program} {w:World} {C:Cx} {A:Around} {σ σ' τ τ':Led} {s:Shared} {E:Value→Led→Prop} {a b l:Addr} {vs us:List Value} {α:Type} [DecidableEq α] {xs ys:List α}
theorem Sat.one {p q:PO} (S:Sat C σ s) (h1:(a,p)∈σ) (h2:(a,q)∈σ):p = q:=by
  have nd:=S.nd
  clear S
  induction σ with
  | nil=>cases h1
  | cons x r ih =>
    rw [List.map_cons,List.nodup_cons] at nd
    rcases List.mem_cons.mp h1 with e1 | m1
    · rcases List.mem_cons.mp h2 with e2 | m2
      · rw [← e1] at e2; injection e2 with _ e2; exact e2.symm
      · exact absurd (by rw [← e1]; exact List.mem_map_of_mem (f:=(·.1)) m2) nd.1
    · rcases List.mem_cons.mp h2 with e2 | m2
      · exact absurd (by rw [← e2]; exact List.mem_map_of_mem (f:=(·.1)) m1) nd.1
      · exact ih m1 m2 nd.2
theorem all_eq (e:Nat→Bool) (h:∀ j (h1:j < xs.length) (h2:j < ys.length),e j = decide (xs[j] = ys[j])) (hn:xs.length = ys.length):((List.range xs.length).all e) = decide (xs = ys):=by
  by_cases q:xs = ys
  · subst q
    rw [decide_eq_true rfl,List.all_eq_true]
    intro j hj
    have:=List.mem_range.mp hj
    rw [h j this this]; simp
  · rw [decide_eq_false q,List.all_eq_false]
    apply Classical.byContradiction
    intro hno
    refine q (List.ext_getElem hn fun j h1 h2=>?_)
    apply Classical.byContradiction
    intro hne
    refine hno ⟨j,List.mem_range.mpr h1,?_⟩
    rw [h j h1 h2]
    simpa using hne
theorem dec_at {j:Nat} (h1:j < xs.length) (h2:j < ys.length):decide (xs[j]? = ys[j]?) = decide (xs[j] = ys[j]):=by
  simp only [List.getElem?_eq_getElem h1,List.getElem?_eq_getElem h2,Option.some.injEq]
noncomputable def Tell (A:Around) (C:Cx) (σ:Led) (vs us:List Value) (xs ys:List α):Prop:=∀ s,Sat C σ s→∀ j (h1:j < xs.length) (h2:j < ys.length) v u,er v = vs.getD j .none→er u = us.getD j .none→SeqAt.EqAt A s v u (decide (xs[j] = ys[j]))
theorem getD_at {its:Array Value} (e:its.toList.map er = vs) {j:Nat} (h:j < its.size):er its[j] = vs.getD j .none:=by
  rw [← e,getD_er,List.getD_eq_getElem?_getD,Array.getElem?_toList,Array.getElem?_eq_getElem h]; rfl
theorem T_neG {Q:Value→Led→Prop} (hl:(l,.lst vs)∈σ) (hb:(b,.lst us)∈σ) (h1:vs.length = xs.length) (h2:us.length = ys.length) (hu:A.units < cLine) (ht:Tell A.in1 C σ vs us xs ys) (h:Q (.bool (decide (xs ≠ ys))) σ):T prog w C A σ (compareOp .NotEq (.ref l) (.ref b)) Q E:=fun s S=>by
  obtain ⟨its,hL,he⟩:=S.isList hl
  obtain ⟨its2,hL2,he2⟩:=S.isList hb
  have n1:=lst_len he
  have n2:=lst_len he2
  by_cases hn:xs.length = ys.length
  · refine SeqAt.RcNeAt.lists (e:=fun j=>decide (xs[j]? = ys[j]?)) hL hL2 (by wtm_at "om") hu (fun j g1 g2=>?_) prog w _ _ ?_
    · have:=ht s S j (by wtm_at "om") (by wtm_at "om") _ _ (getD_at he g1) (getD_at he2 g2)
      rw [dec_at (by wtm_at "om") (by wtm_at "om")]; exact this
    · rw [n1,h1,all_eq (xs:=xs) (ys:=ys) _ (fun j g1 g2=>dec_at g1 g2) hn]
      have : (!decide (xs = ys)) = decide (xs ≠ ys):=by simp
      rw [this]
      exact ⟨_,h,S⟩
  · have : decide (xs ≠ ys) = true:=decide_eq_true fun e=>hn (by rw [e])
    rw [this] at h
    exact SeqAt.RcNeAt.lists_lengths hL hL2 (by rw [n1,n2,h1,h2]; simpa using hn) hu prog w _ _ ⟨_,h,S⟩
theorem tellL (hu:A.units < cLine) {l b:Addr} (S:Sat C σ s) (hl:(l,.lst vs)∈σ) (hb:(b,.lst us)∈σ) (h1:vs.length = xs.length) (h2:us.length = ys.length) (ht:Tell A.in1 C σ vs us xs ys) (hs:vs = us→xs = ys):SeqAt.EqAt A s (.ref l) (.ref b) (decide (xs = ys)):=by
  obtain ⟨its,hL,he⟩:=S.isList hl
  obtain ⟨its2,hL2,he2⟩:=S.isList hb
  have n1:=lst_len he
  have n2:=lst_len he2
  by_cases hlb:l = b
  · subst hlb
    have:=S.one hl hb
    injection this with this
    rw [decide_eq_true (hs this)]
    exact SeqAt.EqAt.same _
  · refine SeqAt.EqAt.of_refs hlb ?_
    by_cases hn:xs.length = ys.length
    · have:=SeqAt.RcAt.lists (A:=A) (s:=s) (e:=fun j=>decide (xs[j]? = ys[j]?)) hL hL2 (by wtm_at "om") hu (fun j g1 g2=>by
        have:=ht s S j (by wtm_at "om") (by wtm_at "om") _ _ (getD_at he g1) (getD_at he2 g2)
        rw [dec_at (by wtm_at "om") (by wtm_at "om")]; exact this)
      rw [n1,h1,all_eq (xs:=xs) (ys:=ys) _ (fun j g1 g2=>dec_at g1 g2) hn] at this
      exact this
    · have : decide (xs = ys) = false:=decide_eq_false fun e=>hn (by rw [e])
      rw [this]
      exact SeqAt.RcAt.lists_lengths hL hL2 (by rw [n1,n2,h1,h2]; simpa using hn) hu
theorem tellI {zs ys:List Int}:Tell A C σ (intL zs) (intL ys) zs ys:=fun s S j h1 h2 v u e1 e2=>by
  rw [List.getD_eq_getElem?_getD,intL,List.getElem?_map,List.getElem?_eq_getElem h1] at e1
  rw [List.getD_eq_getElem?_getD,intL,List.getElem?_map,List.getElem?_eq_getElem h2] at e2
  have e1:er v = (At.i zs[j]).v:=e1
  have e2:er u = (At.i ys[j]).v:=e2
  intro prog w E Q hq
  refine at_eq e1 e2 rfl ?_
  have : decide (At.i zs[j] = At.i ys[j]) = decide (zs[j] = ys[j]):=by simp
  rw [this]; exact hq
theorem tellP1 (hu:A.units < cLine) (S:Sat C σ s) {p q:At × At} {v u:Value} (ha:(a,PO.tup [p.1.v,p.2.v])∈σ) (hb:(b,PO.tup [q.1.v,q.2.v])∈σ) (h1:At.same p.1 q.1 = true) (h2:At.same p.2 q.2 = true):SeqAt.EqAt A s (.ref a) (.ref b) (decide (p = q)):=by
  by_cases hab:a = b
  · subst hab
    have:=S.one ha hb
    injection this with this
    injection this with e1 e2
    injection e2 with e2
    rw [decide_eq_true (Prod.ext (At.v_inj e1) (At.v_inj e2))]
    exact SeqAt.EqAt.same _
  · refine SeqAt.EqAt.of_refs hab ?_
    obtain ⟨x1,x2,n,ho,e1,e2⟩:=tup_obj S ha
    obtain ⟨y1,y2,k,go,f1,f2⟩:=tup_obj S hb
    have:=SeqAt.RcAt.tuples (A:=A) (s:=s) (items:=#[x1,x2]) (items2:=#[y1,y2]) (e:=fun j=>if j = 0 then decide (p.1 = q.1) else decide (p.2 = q.2)) ⟨_,ho,rfl,n,rfl⟩ ⟨_,go,rfl,k,rfl⟩ hu (fun j g1 g2=>by
      match j,g1 with
      | 0,_=>exact fun prog w E Q hq=>at_eq e1 f1 h1 hq
      | 1,_=>exact fun prog w E Q hq=>at_eq e2 f2 h2 hq)
    have e:((List.range (min (#[x1,x2]:Array Value).size (#[y1,y2]:Array Value).size)).all (fun j=>if j = 0 then decide (p.1 = q.1) else decide (p.2 = q.2)) && (#[x1,x2]:Array Value).size == (#[y1,y2]:Array Value).size) = decide (p = q):=by
      show (([0,1]:List Nat).all _ && true) = _
      simp only [List.all_cons,List.all_nil,if_true,Bool.and_true]
      rw [if_neg (by wtm_at "om"),Bool.eq_iff_iff,Bool.and_eq_true,decide_eq_true_eq,decide_eq_true_eq,decide_eq_true_eq]
      exact ⟨fun h=>Prod.ext h.1 h.2,fun h=>by rw [h]; exact ⟨rfl,rfl⟩⟩
    rw [e] at this
    exact this
theorem tellP (hu:A.units < cLine) {ps qs:List (At × At)} (hp:prs σ vs (ps.map atp)) (hq:prs σ us (qs.map atp)) (hk:∀ p∈ps,∀ q∈qs,At.same p.1 q.1 = true∧At.same p.2 q.2 = true):Tell A C σ vs us ps qs:=fun s S j h1 h2 v u e1 e2=>by
  have p1:=hp.at (i:=j)
  have q1:=hq.at (i:=j)
  have l1:vs.length = ps.length:=by rw [hp.len,List.length_map]
  have l2:us.length = qs.length:=by rw [hq.len,List.length_map]
  obtain ⟨a,p,f1,f2,f3⟩:=p1.2 _ (List.getElem?_eq_getElem (by wtm_at "om"))
  obtain ⟨b,q,g1,g2,g3⟩:=q1.2 _ (List.getElem?_eq_getElem (by wtm_at "om"))
  rw [List.getElem?_map,List.getElem?_eq_getElem h1] at f2
  rw [List.getElem?_map,List.getElem?_eq_getElem h2] at g2
  injection f2 with f2
  injection g2 with g2
  subst f2 g2
  rw [List.getD_eq_getElem?_getD,List.getElem?_eq_getElem (by wtm_at "om"),Option.getD_some,f1] at e1
  rw [List.getD_eq_getElem?_getD,List.getElem?_eq_getElem (by wtm_at "om"),Option.getD_some,g1] at e2
  have e1:=er_ref e1
  have e2:=er_ref e2
  subst e1 e2
  obtain ⟨k1,k2⟩:=hk _ (List.getElem_mem h1) _ (List.getElem_mem h2)
  exact tellP1 (v:=.none) (u:=.none) hu S f3 g3 k1 k2
end
section
variable {prog:Program} {w:World} {C:Cx} {A:Around} {σ σ' τ τ':Led} {s:Shared} {E:Value→Led→Prop} {a b l it:Addr} {vs us xs:List Value} {env:Env}
noncomputable def UA (prog:Program) (w:World) (C:Cx) (A:Around) (E:Value→Led→Prop) (env:Env):Led→List (Expr × Value)→(Unit→Led→Prop)→Prop
  | σ,[],Q=>Q () σ
  | σ,(e,p)::r,Q=>Vs p fun v=>T prog w C A σ (assign e env v) (fun _ σ'=>UA prog w C A E env σ' r Q) E
theorem UA.run {Q:Unit→Led→Prop}:∀ {es:List Expr} {vs ps:List Value} {σ:Led} {s:Shared},es.length = ps.length→vs.map er = ps→UA prog w C A E env σ (es.zip ps) Q→Sat C σ s →
    wpAny (model prog w) A (assignInOrder (es.map fun e=>assign e env) vs) (fun a s'=>∃ σ',Q a σ'∧Sat C σ' s') (fun e s'=>∃ σ',E e σ'∧Sat C σ' s') s
  | [],vs,ps,σ,s,hl,he,h,S=>by
    cases ps with
    | nil =>
      rw [List.map_eq_nil_iff] at he
      subst he
      exact wpAny_assignInOrder_none ⟨_,h,S⟩
    | cons _ _=>cases hl
  | e::es,vs,ps,σ,s,hl,he,h,S=>by
    cases ps with
    | nil=>cases hl
    | cons p ps =>
      obtain ⟨v,vs',rfl,e1,e2⟩:=List.map_eq_cons_iff.mp he
      have h':Vs p fun v=>T prog w C A σ (assign e env v) (fun _ σ'=>UA prog w C A E env σ' (es.zip ps) Q) E:=h
      rw [List.map_cons]
      exact wpAny_assignInOrder_more ((h'.get e1).k S fun _ σ₁ s₁ h₁ S₁=>UA.run (Nat.succ.inj hl) e2 h₁ S₁)
theorem drawL (hh:A.handled = none) (hl:(l,.lst xs)∈τ):∀ (n i:Nat) (s:Shared) (Q:List Value→Shared→Prop) {E:Value→Shared→Prop},i + n≤xs.length→Sat C ((it,itr l i)::τ) s→(∀ vs s',vs.map er = (xs.drop i).take n→Sat C ((it,itr l (i + n))::τ) s'→Q vs s') →
    wpAny (model prog w) A (draw (.ref it) n) Q E s
  | 0,i,s,Q,E,_,S,h=>by
    show wpAny _ _ (Pure.pure []) Q E s
    exact wpAny_pure (h [] s (by simp) S)
  | n + 1,i,s,Q,E,hle,S,h=>by
    show wpAny _ _ (pyNext (.ref it) >>= _) Q E s
    refine wpAny_bind ((itsL (prog:=prog) (w:=w) (A:=A) (xs:=xs) hh).next hl S (fun hx=>?_) fun p v hx he s₁ S₁=>?_)
    · rw [List.getElem?_eq_none_iff] at hx; wtm_at "om"
    · refine wpAny_bind (wpAny_holding (drawL hh hl n (i + 1) s₁ _ (by wtm_at "om") S₁ fun vs s₂ hv S₂=>wpAny_pure (h (v::vs) s₂ ?_ (by rw [show i + (n + 1) = i + 1 + n by wtm_at "om"]; exact S₂))))
      have hlt:i < xs.length:=by wtm_at "om"
      rw [List.map_cons,hv,he,List.drop_eq_getElem_cons hlt,List.take_succ_cons]
      rw [List.getElem?_eq_getElem hlt] at hx
      injection hx with hx
      rw [hx]
theorem T_assignUL {es:List Expr} {k:Nat} {pos:Pos} {Q:Unit→Led→Prop} (hh:A.handled = none) (hl:(l,.lst xs)∈σ) (hlen:es.length = xs.length)
    (he:(assignEach es env).map (·.2) = es.map fun e=>assign e env) (hst:(assignEach es env).findIdx? (·.1) = none) (h:UA prog w C A E env σ (es.zip xs) Q):T prog w C A σ (assign (.Tuple es k pos) env (.ref l)) Q E:=fun s S=>by
  obtain ⟨its,hL,hi⟩:=S.isList hl
  have hle:(assignEach es env).length = xs.length:=by rw [← hlen,← List.length_map (f:=(·.2)),he,List.length_map]
  rw [arm_assign_Tuple]
  refine wpAny_bind (wpAny_standAt ?_)
  unfold unpack
  rw [hle,hst,he]
  refine wpAny_bind (wpAny_holding ?_)
  unfold unpackItems
  refine wpAny_bind ?_
  unfold notIterableAtAll
  refine wpAny_bind (wpAny_specialOf hL.typeIs slot_list_iter.lookup ?_)
  refine wpAny_pure ?_
  rw [if_neg (by simp)]
  refine wpAny_bind (wpAny_holding (iterL S hl fun it s₁ S₁=>?_))
  dsimp only
  refine wpAny_bind (wpAny_holding (drawL hh hl xs.length 0 s₁ _ (by wtm_at "om") S₁ fun vs s₂ hv S₂=>?_))
  rw [List.drop_zero,List.take_of_length_le (Nat.le_refl _)] at hv
  have hvl:vs.length = xs.length:=by rw [← hv,List.length_map]
  rw [if_neg (by wtm_at "om")]
  refine wpAny_bind (wpAny_holding ((itsL (prog:=prog) (w:=w) (A:=A) (xs:=xs) hh).next hl S₂ (fun _ s₃ S₃=>?_) fun p v hx _ _ _=>?_))
  · rw [if_neg (by simp)]
    exact wpAny_pure (UA.run hlen hv h S₃)
  · rw [List.getElem?_eq_none (by wtm_at "om")] at hx; cases hx
theorem T_assignUT {es:List Expr} {k:Nat} {pos:Pos} {Q:Unit→Led→Prop} (hh:A.handled = none) (hl:(l,.tup xs)∈σ) (hlen:es.length = xs.length)
    (he:(assignEach es env).map (·.2) = es.map fun e=>assign e env) (hst:(assignEach es env).findIdx? (·.1) = none) (h:UA prog w C A E env σ (es.zip xs) Q):T prog w C A σ (assign (.Tuple es k pos) env (.ref l)) Q E:=fun s S=>by
  obtain ⟨o,ho,its,n,rfl,e⟩:=S.get hl
  have hz:its.size = xs.length:=by rw [← e,List.length_map,Array.length_toList]
  have hle:(assignEach es env).length = its.size:=by rw [hz,← hlen,← List.length_map (f:=(·.2)),he,List.length_map]
  refine wpAny_assign_Tuple hh ⟨_,ho,rfl,n,rfl⟩ hle hst fun h' hx=>?_
  rw [he]
  exact UA.run hlen e h (S.grown (h':=h') fun b o e=>hx b o (Nat.ne_of_lt (Heap.lt_size e)) e)
inductive nst (τ:Led):List Value→List (List Int)→Prop
  | nil:nst τ [] []
  | cons {a:Addr} {zs:List Int} {vs:List Value} {ps:List (List Int)} (h:(a,PO.lst (intL zs))∈τ) (r:nst τ vs ps):nst τ (.ref a::vs) (zs::ps)
theorem nst.len {vs:List Value} {ps:List (List Int)} (h:nst τ vs ps):vs.length = ps.length:=by
  induction h with
  | nil=>rfl
  | cons _ _ ih=>rw [List.length_cons,List.length_cons,ih]
theorem nst.at {vs:List Value} {ps:List (List Int)} (h:nst τ vs ps):∀ {i:Nat} (hi:i < ps.length),∃ a,vs.getD i .none = .ref a∧(a,PO.lst (intL ps[i]))∈τ:=by
  induction h with
  | nil=>intro i hi; exact absurd hi (Nat.not_lt_zero _)
  | @cons a zs vs ps h _ ih =>
    intro i hi
    cases i with
    | zero=>exact ⟨a,rfl,h⟩
    | succ i=>exact ih (Nat.lt_of_succ_lt_succ hi)
theorem intL_inj {zs ys:List Int} (h:intL zs = intL ys):zs = ys:=by
  induction zs generalizing ys with
  | nil=>cases ys with | nil=>rfl | cons _ _=>cases h
  | cons z r ih =>
    cases ys with
    | nil=>cases h
    | cons y q =>
      injection h with h1 h2
      injection h1 with h1
      rw [h1,ih h2]
theorem tellN (hu:A.units < cLine) {ps qs:List (List Int)} (hp:nst σ vs ps) (hq:nst σ us qs):Tell A C σ vs us ps qs:=fun s S j h1 h2 v u e1 e2=>by
  obtain ⟨a,f1,f2⟩:=hp.at h1
  obtain ⟨b,g1,g2⟩:=hq.at h2
  rw [f1] at e1
  rw [g1] at e2
  have e1:=er_ref e1
  have e2:=er_ref e2
  subst e1 e2
  exact tellL hu S f2 g2 (by rw [intL,List.length_map]) (by rw [intL,List.length_map]) tellI intL_inj
theorem T_eqNil {Q:Value→Led→Prop} (hl:(l,.lst vs)∈σ) (hb:(b,.lst [])∈σ) (hu:A.units < cLine) (h:Q (.bool vs.isEmpty) σ):T prog w C A σ (compareOp .Eq (.ref l) (.ref b)) Q E:=fun s S=>by
  obtain ⟨its,hL,he⟩:=S.isList hl
  obtain ⟨its2,hL2,he2⟩:=S.isList hb
  have n1:=lst_len he
  have n2:=lst_len he2
  cases vs with
  | nil =>
    have:=SeqAt.RcAt.lists (A:=A) (s:=s) (e:=fun _=>true) hL hL2 (by rw [n1,n2]) hu (fun j g1 _=>by rw [n1] at g1; exact absurd g1 (Nat.not_lt_zero _))
    rw [n1] at this
    exact this prog w _ _ ⟨_,h,S⟩
  | cons v r=>exact SeqAt.RcAt.lists_lengths hL hL2 (by rw [n1,n2]; rfl) hu prog w _ _ ⟨_,h,S⟩
theorem T_gmIndex {pl:Sem Bool} {Q:Value × List Value→Led→Prop} (hl:(l,.lst vs)∈σ) (h:Q (.builtin "list.index", [.ref l]) σ):T prog w C A σ (getMethod (.ref l) (Str.ofString "index") pl) Q E:=fun _ S=>gmL PySem.F.slot_list_index PySem.F.type_list_index S hl ⟨_,h,S⟩
theorem T_gmSort {pl:Sem Bool} {Q:Value × List Value→Led→Prop} (hl:(l,.lst vs)∈σ) (h:Q (.builtin "list.sort", [.ref l]) σ):T prog w C A σ (getMethod (.ref l) (Str.ofString "sort") pl) Q E:=fun _ S=>gmL PySem.F.slot_list_sort PySem.F.type_list_sort S hl ⟨_,h,S⟩
theorem T_index {ps:List (At × At)} {q:At × At} {j:Nat} {Q:Value→Led→Prop} (hl:(l,.lst vs)∈σ) (hp:prs σ vs (ps.map atp)) (hq:(b,.tup [q.1.v,q.2.v])∈σ) (hu:A.units + 2 < cLine) (hk:∀ p∈ps,At.same p.1 q.1 = true∧At.same p.2 q.2 = true) (hz:ps.length≤1000000)
    (hj:ps[j]? = some q) (hno:∀ m,m < j→ps[m]? ≠ some q) (h:∀ t,Q (.int j t) σ):T prog w C A σ (call (.builtin "list.index") [.ref l,.ref b]) Q E:=fun s S=>by
  obtain ⟨its,n,ho,he⟩:=S.lst hl
  have n1:=lst_len he
  have hvl:vs.length = ps.length:=by rw [hp.len,List.length_map]
  have hjl:j < ps.length:=(List.getElem?_eq_some_iff.mp hj).1
  have at_:∀ m (hm:m < its.size),∃ a,its[m] = .ref a∧(a,PO.tup [(ps[m]'(by wtm_at "om")).1.v,(ps[m]'(by wtm_at "om")).2.v])∈σ:=fun m hm=>by
    have e:=getD_at he hm
    obtain ⟨a,p,f1,f2,f3⟩:=(hp.at (i:=m)).2 _ (List.getElem?_eq_getElem (by wtm_at "om"))
    rw [List.getD_eq_getElem?_getD,List.getElem?_eq_getElem (by wtm_at "om"),Option.getD_some,f1] at e
    rw [List.getElem?_map,List.getElem?_eq_getElem (by wtm_at "om")] at f2
    injection f2 with f2
    subst f2
    exact ⟨a,er_ref e,f3⟩
  obtain ⟨f,hf⟩:∃ f:Value→Bool,∀ m (hm:m < its.size),f its[m] = decide (ps[m]? = some q):=by
    refine ⟨fun v=>decide (∃ m,∃ hm:m < its.size,its[m] = v∧ps[m]? = some q),fun m hm=>?_⟩
    rw [Bool.eq_iff_iff,decide_eq_true_eq,decide_eq_true_eq]
    constructor
    · rintro ⟨m',hm',e,hq'⟩
      obtain ⟨a,e1,h1⟩:=at_ m hm
      obtain ⟨a',e2,h2⟩:=at_ m' hm'
      rw [e1,e2] at e
      injection e with e
      subst e
      have:=S.one h1 h2
      injection this with this
      injection this with i1 i2
      injection i2 with i2
      have e3:ps[m]'(by wtm_at "om") = ps[m']'(by wtm_at "om"):=Prod.ext (At.v_inj i1) (At.v_inj i2)
      rw [List.getElem?_eq_getElem (by wtm_at "om")] at hq' ⊢
      rw [e3]; exact hq'
    · intro h; exact ⟨m,hm,rfl,h⟩
  refine call_meets PySem.F.slot_list_index ⟨_,ho,rfl⟩ PySem.F.entry_list_index (PySem.F.args_list_index_2 _ _) (SeqAt.list_indexAt l its n none #[] (.ref b) f j (by wtm_at "om") (by wtm_at "om") (by rw [hf j (by wtm_at "om")]; exact decide_eq_true hj) fun m hm hlt=>by rw [hf m hm]; exact decide_eq_false (hno m hlt)) ⟨ho,fun y hy=>?_,_,h _,S.tok _⟩
  obtain ⟨m,hm,rfl⟩:=Array.mem_iff_getElem.mp hy
  obtain ⟨a,e1,h1⟩:=at_ m hm
  obtain ⟨k1,k2⟩:=hk _ (List.getElem_mem (by wtm_at "om" : m < ps.length))
  have:=tellP1 (A:=A.in1) (v:=.none) (u:=.none) (by show A.units + 1 < _; wtm_at "om") S h1 hq k1 k2
  rw [hf m hm,e1]
  have e2:decide (ps[m]? = some q) = decide (ps[m]'(by wtm_at "om") = q):=by simp only [List.getElem?_eq_getElem (by wtm_at "om" : m < ps.length),Option.some.injEq]
  rw [e2]; exact this
end
theorem opq2 {α β:Type} {G:Prop} (P:α→β→Prop) (h:∀ J:α→β→Prop,(∀ a b,P a b→J a b)→(∀ a b,J a b→P a b)→G):G:=h P (fun _ _=>id) (fun _ _=>id)
theorem opq3 {α β γ:Type} {G:Prop} (P:α→β→γ→Prop) (h:∀ J:α→β→γ→Prop,(∀ a b c,P a b c→J a b c)→(∀ a b c,J a b c→P a b c)→G):G:=h P (fun _ _ _=>id) (fun _ _ _=>id)
section
variable {prog:Program} {w:World} {A:Around} {E:Value→Shared→Prop} {C:Cx} {σ:Led} {s:Shared} {Q:Value→Shared→Prop}
noncomputable def wrF1 (wr da de ns pm ps:Addr) (seen done:Bool):List (Str × Value) :=
  [(Str.ofString "_ignored_depth", .int 0 0),(Str.ofString "_root_done", .bool done),(Str.ofString "_root_seen", .bool seen),(Str.ofString "_pending_start", .none),(Str.ofString "_preserve_space", .ref ps),
    (Str.ofString "_prefix_map", .ref pm),(Str.ofString "_ns_stack", .ref ns),(Str.ofString "_declared_ns_stack", .ref de),(Str.ofString "_find_qname_aware_attrs", .none),(Str.ofString "_qname_aware_tags", .none),
    (Str.ofString "_rewrite_prefixes", .bool true),(Str.ofString "_exclude_tags", .none),(Str.ofString "_exclude_attrs", .none),(Str.ofString "_strip_text", .bool false),(Str.ofString "_with_comments", .bool false),
    (Str.ofString "_data", .ref da),(Str.ofString "_write", .ref wr)]
noncomputable def xmlU:Str:=Str.ofString "http://www.w3.org/XML/1998/namespace"
noncomputable def xmlP:Str:=Str.ofString "xml"
theorem T_newWr1 {E:Value→Led→Prop} {Q:Value→Led→Prop} {wa:Addr} (hK:C.K = KK w.params) (R:Rm 4 A)
    (hQ:∀ x d da dl de ns n1 pm ps t,Q (.ref x) ((ps,.lst [.bool false])::(pm,.raw emptyDict)::(n1,.lst [])::(ns,.lst [.ref n1])::(de,.lst [.ref dl])::(dl,.lst [.ref t])::(t,.tup [.str xmlU 0,.str xmlP 0]) ::
      (da,.lst [])::(x,.ins 199 d)::(d,.idc (wrF1 wa da de ns pm ps false false))::σ)) :
    T prog w C A σ (call (.ref 199) [.ref wa] [(Str.ofString "rewrite_prefixes", .bool true)]) Q E:=by
  refine T_newI (fI:=116) (by wtm_at "r_k") (by wtm_at "r_k") (by wtm_at "r_k") fun x d=>?_
  refine' T_callFC (m:=[(Str.ofString "exclude_tags", .none),(Str.ofString "exclude_attrs", .none),(Str.ofString "qname_aware_attrs", .none),(Str.ofString "qname_aware_tags", .none),(Str.ofString "rewrite_prefixes", .bool true),(Str.ofString "strip_text", .bool false),(Str.ofString "with_comments", .bool false),(Str.ofString "write", .ref wa),(Str.ofString "self", .ref x)])
    [(Str.ofString "self", .ref x),(Str.ofString "write", .ref wa),(Str.ofString "with_comments", .bool false),(Str.ofString "strip_text", .bool false),(Str.ofString "rewrite_prefixes", .bool true),(Str.ofString "qname_aware_tags", .none),
    (Str.ofString "qname_aware_attrs", .none),(Str.ofString "exclude_attrs", .none),(Str.ofString "exclude_tags", .none)] (Rm.room (Rm.under R)) (ho:=?ho) (hcd:=?hcd) (hbind:=?hb) (hloc:=?hloc) (hm:=?hm) (h:=?h) (hco:=?hco) (hgen:=?hgen) (hk:=?hk) (hcell:=?hcell)
  case ho=>rw [hK]; exact lookup_KK rfl rfl
  case hcd=>wtm_at "r_k"
  case hb=>exact fun s X=>kp_binds (K:=KK w.params) (hK ▸ X) fun S=>by kernel_rfl
  case hloc=>kernel_rfl
  case hm=>exact rfl
  case hco=>rfl
  case hgen=>rfl
  case hk=>rfl
  case hcell=>decide
  intro L
  wtm_at "t_run"
  repeat ((first | wtm_at "t_setN" | refine T_tNot (T_tV ?_)); wtm_at "t_run")
  exact ⟨_,.cons_cons _ (.cons_cons _ (.cons_cons _ (.cons_cons _ (.cons_cons _ (.cons_cons _ (.cons_cons _ (.cons_cons _ (.cons _ (List.Sublist.refl _))))))))),rfl,hQ x d _ _ _ _ _ _ _ _⟩
end
noncomputable def pre (i:Nat):Str:=Str.ofString "n" ++ Str.ofString (toString (i:Int))
noncomputable def nsD (us:List Str):List (Str × Value):=us.mapIdx fun i u=>(u,.str (pre i) 0)
noncomputable def nsP (us:List Str):List (Value × Value):=us.mapIdx fun i u=>(.str u 0,.str (pre i) 0)
noncomputable def nsAdd (us:List Str) (u:Str):List Str:=if u∈us then us else us ++ [u]
noncomputable def qT (us:List Str) (u tag:Str):List Value:=[.str (pre (us.idxOf u) ++ Str.ofString ":" ++ tag) 0,.str tag 0,.str u 0]
structure QA where
  (x d wa da de dl tt nn ns pm ps:Addr)
  (seen dn:Bool)
noncomputable def QA.led (prog:Program) (w:World) (p:QA) (us:List Str) (vs:List Value) (tl:Led):Led :=
  (p.x,.ins 199 p.d)::(p.d,.idc (wrF1 p.wa p.da p.de p.ns p.pm p.ps p.seen p.dn))::(p.de,.lst [.ref p.dl,.ref p.nn])::(p.dl,.lst [.ref p.tt])::(p.tt,.tup [.str xmlU 0,.str xmlP 0])::(p.nn,.lst vs)::(p.pm,dcp prog w (nsD us))::tl
section
variable {prog:Program} {w:World} {C:Cx} {A:Around} {σ σ' ρ:Led} {E:Value→Led→Prop} {env:Env} {s:Shared} {p:QA} {q tag u:Str} {t:Tok} {us:List Str} {vs:List Value} {tl:Led} {a:Addr} {P:Str→Bool} {n:Nat} {x:Str}
theorem T_notInSt {Q:Value→Led→Prop} (hm:(a,stp prog w P n)∈σ) (hn:n < 4096) (h:Q (.bool (!P x)) σ):T prog w C A σ (compareOp .NotIn (.str x t) (.ref a)) Q E:=fun _ S=>notInS S hm hn fun _ S'=>⟨_,h,S'⟩
theorem T_addSt {Q:Value→Led→Prop} (hn:n + 1 < 4096) (U:Upd a (stp prog w P n) (stp prog w (fun y=>P y || decide (y = x)) (if P x then n else n + 1)) σ σ') (h:Q .none σ'):T prog w C A σ (call (.builtin "set.add") [.ref a,.str x t]) Q E:=fun _ S=>addS S hn U fun _ S'=>⟨_,h,S'⟩
theorem T_gmAddSt {pl:Sem Bool} {Q:Value × List Value→Led→Prop} (hm:(a,stp prog w P n)∈σ) (hn:n < 4096) (h:Q (.builtin "set.add", [.ref a]) σ):T prog w C A σ (getMethod (.ref a) (Str.ofString "add") pl) Q E:=fun _ S=>gmS S hm hn ⟨_,h,S⟩
theorem T_newSt {Q:Value→Led→Prop} (h:∀ a,Q (.ref a) ((a,stp prog w (fun _=>false) 0)::σ)):T prog w C A σ (call (.type "set") []) Q E:=fun _ S=>newS0 S fun a _ S'=>⟨_,h a,S'⟩
theorem T_assignAll1 {v:Value} {t:Expr} {Q:Unit→Led→Prop} (h:T prog w C A σ (assign t env v) Q E) (he:assignEach [t] env = [(false,assign t env)]:=by rfl):T prog w C A σ (assignAll v ((assignEach [t] env).map (·.2))) Q E:=by
  rw [he]; exact h
theorem UA_nil {Q:Unit→Led→Prop} (h:Q () σ):UA prog w C A E env σ [] Q:=h
theorem iterG {g:Nat} {Q:Value→Shared→Prop} {E:Value→Shared→Prop} (S:Sat C σ s) (ha:(a,gob g)∈σ) (h:Q (.ref a) s):wpAny (model prog w) A (pyIter (.ref a)) Q E s:=by
  obtain ⟨o,ho,nm,qn,h1,h2,h3⟩:=S.get ha
  exact wpAny_pyIter_gen ⟨o,nm,qn,ho,h1,h2,h3⟩ h
noncomputable def cont1 (nn tt:Addr) (vs:List Value) (v:Value):List Value:=if v = .ref nn then vs else [.ref tt]
theorem T.keep {prog:Program} {w:World} {C:Cx} {A:Around} {σ:Led} {s:Shared} {α:Type} {t:Sem α} {v:α} {G:α→Shared→Prop} {E':Value→Shared→Prop} (h:T prog w C A σ t (fun a σ'=>a = v∧σ' = σ) NoE) (S:Sat C σ s) (k:∀ s',Sat C σ s'→G v s'):wpAny (model prog w) A t G E' s :=
  h.kN S fun _ _ s' e S'=>by obtain ⟨rfl,rfl⟩:=e; exact k s' S'
theorem T.opq2 {prog:Program} {w:World} {C:Cx} {A:Around} {σ:Led} {E E':Value→Led→Prop} {α β:Type} {t:Sem α} {b:Sem β} {Q:β→Led→Prop} (h:∀ Q':β→Led→Prop,(∀ a σ',Q a σ'→Q' a σ')→T prog w C A σ t (fun _ σ₁=>T prog w C A σ₁ b Q' E') E):T prog w C A σ t (fun _ σ₁=>T prog w C A σ₁ b Q E') E:=h Q fun _ _ h=>h
theorem T_forNs {target iter:Expr} {body:List Stmt} {pos:Pos} {x de dl nn tt:Addr} {Qf:Flow→Led→Prop} (hK:C.K = KK w.params) (R:Rm 4 A) (hde:(de,.lst [.ref dl,.ref nn])∈σ) (hdl:(dl,.lst [.ref tt])∈σ) (hnn:(nn,.lst vs)∈σ) (hne:dl ≠ nn) (hz:vs.length≤1000)
    (hev:∀ (Q:Value→Shared→Prop) (E:Value→Shared→Prop) s,Sat C σ s→(∀ s',Sat C σ s'→wpAny (model prog w) A (call (.ref 124) [.ref x,.ref de]) Q E s')→wpAny (model prog w) A (eval iter env) Q E s)
    (hf:∀ v,foldedSetIterable iter env v = Pure.pure v) (J:List Value→Led→Prop) (h0:J (vs ++ [.ref tt]) σ) (hn:∀ r τ,J r τ→(de,.lst [.ref dl,.ref nn])∈τ∧(dl,.lst [.ref tt])∈τ∧(nn,.lst vs)∈τ)
    (turn:∀ (C':Cx) v r τ own,C'.K = C.K→J (er v::r) τ→T prog w C' A (τ ++ own) (assign target env v) (fun _ σ₁=>T prog w C' A σ₁ (execs body env) (fun fl σ₂=>match fl with
        | .next | .cont=>∃ τ',J r τ'∧(τ' ++ own).Sublist σ₂
        | .brk=>Qf .next σ₂
        | .ret v=>Qf (.ret v) σ₂) NoE) NoE)
    (fin:∀ τ,J [] τ→Qf .next τ):T prog w C A σ (exec (.For target iter body [] pos) env) Qf E:=fun s S=>by
  refine wpAny_For (hev _ _ s S fun s₁ S₁=>?_) hf
  refine callGen (args:=⟨[.ref x,.ref de],[]⟩) (binds:=[(Str.ofString "self", .ref x),(Str.ofString "ns_stack", .ref de),(Str.ofString "_reversed", .type "reversed")]) S₁ R.room (by rw [hK]; exact lookup_KK rfl rfl) (by wtm_at "r_k")
    (kp_binds (K:=KK w.params) (by rw [← hK]; exact S₁.kin) fun S=>by kernel_rfl!) (locAll rfl) fun LG ag g s₅ hfr S₅=>?_
  have S₆:=S₅.perm (σ':=(LG,.ns [(Str.ofString "_reversed", .type "reversed"),(Str.ofString "ns_stack", .ref de),(Str.ofString "self", .ref x)])::(ag,gob g)::σ) (List.Perm.swap _ _ _)
  refine iterG S₆ (a:=ag) (g:=g) (.tail _ (.head _)) ?_
  have hcont:([Value.ref dl,.ref nn].reverse.flatMap (cont1 nn tt vs)) = vs ++ [.ref tt]:=by
    show cont1 nn tt vs (.ref nn) ++ (cont1 nn tt vs (.ref dl) ++ []) = _
    unfold cont1
    rw [if_pos rfl,if_neg (fun e=>hne (by injection e)),List.append_nil]
  refine' forGen (τ:=σ) (go:=gob g) (need:=fun _ τ=>(de,.lst [.ref dl,.ref nn])∈τ∧(dl,.lst [.ref tt])∈τ∧(nn,.lst vs)∈τ) (xs:=[Value.ref dl,.ref nn].reverse.flatMap (cont1 nn tt vs))
    (own:=[(LG,.ns [(Str.ofString "_reversed", .type "reversed"),(Str.ofString "ns_stack", .ref de),(Str.ofString "self", .ref x)])])
    (fun o h=>h) R.hand R.room hfr ?G J S₆ ?h0 ?hn ?turn ?fin
  case G =>
    show Emits prog w _ _ g _ _ _ (denote table _) []
    refine' gen_func (env:=envX (Str.ofString "C14NWriterTarget._iter_namespaces") _ LG 124 _ _) (l:=de) (xs:=[Value.ref dl,.ref nn]) (cont1 nn tt vs) ?ga ?gb ?gc ?gh ?g1 ?g2 ?g3 ?g4 ?g5 ?g6 ?g7 ?g8 ?g9 ?g10 ?g11
    case gh=>exact R.hand
    case g1=>exact rfl
    case g2=>exact rfl
    case g3=>exact rfl
    case g4=>decide
    case g5=>exact rfl
    case g6=>exact rfl
    case g7=>decide
    case g8=>exact rfl
    case g9=>exact rfl
    case g10=>decide
    case g11=>exact fun _=>rfl
    case ga=>exact fun C τ h=>h.1
    case gb =>
      intro C τ h v hv
      unfold cont1
      rcases List.mem_cons.mp hv with rfl | hv
      · exact ⟨dl,rfl,by rw [if_neg (fun e=>hne (by injection e))]; exact h.2.1⟩
      · rcases List.mem_cons.mp hv with rfl | hv
        · exact ⟨nn,rfl,by rw [if_pos rfl]; exact h.2.2⟩
        · cases hv
    case gc =>
      intro v
      unfold cont1
      split
      · wtm_at "om"
      · exact Nat.le_of_ble_eq_true rfl
  case h0=>rw [hcont]; exact h0
  case hn =>
    intro r τ hJ
    obtain ⟨h1,h2,h3⟩:=hn r τ hJ
    exact ⟨.tail _ h1,.tail _ h2,.tail _ h3⟩
  case turn =>
    intro gs' own' v r τ s₈ hJ S₈
    have S₉:=S₈.perm (σ':=τ ++ (own' ++ [(ag,gob g)])) (by
      rw [← List.append_assoc]
      exact (List.perm_append_comm (l₁:=[(ag,gob g)]) (l₂:=τ ++ own')))
    refine T.kN (turn (C.withG g gs') v r τ (own' ++ [(ag,gob g)]) rfl hJ) S₉ fun _ σ₁ s₁ h₁ S₁=>T.kN h₁ S₁ fun fl σ₂ s₂ h₂ S₂=>?_
    have back:∀ {τ':Led},(τ' ++ (own' ++ [(ag,gob g)])).Sublist σ₂→Sat (C.withG g gs') ((ag,gob g)::(τ' ++ own')) s₂:=fun {τ'} hs=>(S₂.sub hs).perm (by
      rw [← List.append_assoc]
      exact (List.perm_append_comm (l₁:=τ' ++ own') (l₂:=[(ag,gob g)])))
    cases fl with
    | next=>obtain ⟨τ',hJ',hs⟩:=h₂; exact ⟨τ',hJ',back hs⟩
    | cont=>obtain ⟨τ',hJ',hs⟩:=h₂; exact ⟨τ',hJ',back hs⟩
    | brk=>exact ⟨_,h₂,S₂.noG⟩
    | ret v=>exact ⟨_,h₂,S₂.noG⟩
  case fin=>exact fun τ s₁ hJ S₁=>⟨_,fin τ hJ,S₁.sub (List.sublist_cons_self _ _)⟩
theorem pre_inj:∀ i,i < 30→∀ j,j < 30→pre i = pre j→i = j:=by decide +kernel
theorem pre_len:∀ i,i < 30→(pre i).length≤10∧(pre i).length ≠ 0:=by decide +kernel
theorem str_beq {x y:Str}:(x.cps.toList == y.cps.toList) = decide (x = y):=by
  rw [Bool.eq_iff_iff,beq_iff_eq,decide_eq_true_eq]
  exact ⟨str_ext,fun h=>by rw [h]⟩
theorem e_app (x:Str):Str.empty ++ x = x:=str_ext (by show (#[] ++ x.cps).toList = _; simp)
section
variable {out:Str} {rest:List (Sem Value)} {restE:List Expr} {m:List (Str × Value)} {y z:Str} {u:Tok} {k:Nat} {pos p1 p2:Pos} {Q:Value→Led→Prop}
theorem T_jpC (hz:out.length + z.length≤1000000) (h:T prog w C A σ (joinParts (out ++ z) rest) Q E):T prog w C A σ (joinParts out (eval (.Constant (.str z) k pos) env::rest)) Q E:=T_jp1 (T_cStr fun t=>⟨z,t,rfl,hz,h⟩)
theorem T_jpC0 (hz:z.length≤1000000) (h:T prog w C A σ (joinParts z rest) Q E):T prog w C A σ (joinParts Str.empty (eval (.Constant (.str z) k pos) env::rest)) Q E:=T_jpC (Nat.le_trans (Nat.le_of_eq (Nat.zero_add _)) hz) (by rw [e_app]; exact h)
theorem T_jpCE (hz:out.length + z.length≤1000000) (h:T prog w C A σ (joinParts (out ++ z) (evalEach restE env)) Q E):T prog w C A σ (joinParts out (evalEach (.Constant (.str z) k pos::restE) env)) Q E:=T_jpC hz h
theorem T_jpN {x:Str} (hm:(env.locals,.ns m)∈σ) (hx:m.lookup x = some (.str y u)) (hz:out.length + y.length≤1000000) (h:T prog w C A σ (joinParts (out ++ y) rest) Q E) (hl:env.kindOf x = some .local:=by rfl) (hk:env.scope.kind = .function:=by rfl)
    (hd:(x == ("__debug__" : Str)) = false:=by with_unfolding_all rfl):T prog w C A σ (joinParts out (eval (.FormattedValue (.Name x p1) (-1) none p2) env::rest)) Q E :=
  T_jp1 (T_fv (T_Name (T_ldL' hl hk hm hx (VsQ_str fun _=>T_fvS (by wtm_at "om") fun t'=>⟨y,t',rfl,hz,h⟩)) hd))
theorem T_jpN0 {x:Str} (hm:(env.locals,.ns m)∈σ) (hx:m.lookup x = some (.str y u)) (hz:y.length≤1000000) (h:T prog w C A σ (joinParts y rest) Q E) (hl:env.kindOf x = some .local:=by rfl) (hk:env.scope.kind = .function:=by rfl)
    (hd:(x == ("__debug__" : Str)) = false:=by with_unfolding_all rfl):T prog w C A σ (joinParts Str.empty (eval (.FormattedValue (.Name x p1) (-1) none p2) env::rest)) Q E :=
  T_jpN hm hx (Nat.le_trans (Nat.le_of_eq (Nat.zero_add _)) hz) (by rw [e_app]; exact h) hl hk hd
theorem T_jpNE {x:Str} (hm:(env.locals,.ns m)∈σ) (hx:m.lookup x = some (.str y u)) (hz:out.length + y.length≤1000000) (h:T prog w C A σ (joinParts (out ++ y) (evalEach restE env)) Q E) (hl:env.kindOf x = some .local:=by rfl) (hk:env.scope.kind = .function:=by rfl)
    (hd:(x == ("__debug__" : Str)) = false:=by with_unfolding_all rfl):T prog w C A σ (joinParts out (evalEach (.FormattedValue (.Name x p1) (-1) none p2::restE) env)) Q E:=T_jpN hm hx hz h hl hk hd
end
theorem idx_at:∀ {us:List Str} {k:Nat},us[k]? = some u→(∀ j,j < k→us[j]? ≠ some u)→us.idxOf u = k
  | [],_,h,_=>by cases h
  | a::r,0,h,_=>by injection h with h; rw [h,List.idxOf_cons_self]
  | a::r,k + 1,h,hn=>by
    have h0:a ≠ u:=fun e=>hn 0 (Nat.succ_pos _) (by rw [e]; rfl)
    have hb:(a == u) = false:=beq_eq_false_iff_ne.mpr h0
    rw [List.idxOf_cons,hb,cond_false,idx_at (us:=r) (k:=k) h fun j hj=>hn (j + 1) (Nat.succ_lt_succ hj)]
theorem nsD_keys (us:List Str):(nsD us).map (·.1) = us:=by
  apply List.ext_getElem?
  intro i
  unfold nsD
  rw [List.getElem?_map,List.getElem?_mapIdx]
  cases us[i]? <;> rfl
theorem nsD_add (us:List Str) (u:Str):nsD (us ++ [u]) = nsD us ++ [(u,.str (pre us.length) 0)]:=by unfold nsD; rw [List.mapIdx_concat]
theorem nsP_add (us:List Str) (u:Str):nsP (us ++ [u]) = nsP us ++ [(.str u 0,.str (pre us.length) 0)]:=by unfold nsP; rw [List.mapIdx_concat]
theorem tl_led {y:Addr × PO} (h:y∈tl):y∈p.led prog w us vs tl:=by
  unfold QA.led
  iterate 7 apply List.Mem.tail
  exact h
theorem TC_qn {R':Result→Led→Prop} (hK:C.K = KK w.params) (R:Rm 8 A) (hp:prs tl vs (nsP us)) (hz:us.length≤20) (hnd:us.Nodup) (hq1:(Txt.slice q none (some 1)).cps.toList = (Str.ofString "{").cps.toList)
    (hq2:Txt.rsplitMax (Txt.slice q (some 1) none) (Str.ofString "}") 1 = [u,tag]) (hx:u ≠ xmlU) (hql:q.length≤1000) (hul:u.length≤1000) (htl:tag.length≤1000)
    (h:∀ T vs' tl',tl.Sublist tl'→prs tl' vs' (nsP (nsAdd us u))→R' (.ok (.ret (.ref T))) ((T,.tup (qT (nsAdd us u) u tag))::(p.led prog w (nsAdd us u) vs' tl' ++ ρ))) :
    TC prog w C A (p.led prog w us vs tl ++ ρ) (.call (.ref 139) ⟨[.ref p.x,.str q t],[]⟩) R':=by
  refine' T_callFC (m:=[(Str.ofString "uri", .none),(Str.ofString "qname", .str q 0),(Str.ofString "self", .ref p.x)]) [(Str.ofString "self", .ref p.x),(Str.ofString "qname", .str q t),(Str.ofString "uri", .none)] R.room (ho:=?ho) (hcd:=?hcd) (hbind:=?hb) (hloc:=?hloc) (hm:=?hm) (h:=?h) (hco:=?hco) (hgen:=?hgen) (hk:=?hk) (hcell:=?hcell)
  case ho=>rw [hK]; exact lookup_KK rfl rfl
  case hcd=>wtm_at "r_k"
  case hb=>exact fun s X=>kp_binds (K:=KK w.params) (hK ▸ X) fun S=>by kernel_rfl!
  case hloc=>kernel_rfl
  case hm=>exact rfl
  case hco=>rfl
  case hgen=>rfl
  case hk=>rfl
  case hcell=>decide
  intro L
  unfold QA.led
  dsimp only [List.cons_append,List.nil_append]
  wtm_at "t_go"
  refine T_AssignS ?_ (by exact rfl) (by exact rfl)
  wtm_at "t_run"
  refine T_slcS (lo:=none) (hi:=some (1,_)) (.head _) rfl rfl (by wtm_at "om") fun t2=>?_
  wtm_at "t_run"
  refine T_eqS ?_
  wtm_at "t_run"
  refine ifT (beq_iff_eq.mpr hq1) ?_
  wtm_at "t_run"
  refine T_slcS (lo:=some (1,_)) (hi:=none) (.head _) rfl rfl (by wtm_at "om") fun t3=>?_
  wtm_at "t_run"
  refine T_gmRsplit ?_
  wtm_at "t_run"
  refine T_rsplitM rfl rfl (Nat.le_trans (Txt.slice_le _ _ _) (by wtm_at "om")) (by show (Txt.rsplitMax (Txt.slice q (some 1) none) (Str.ofString "}") 1).length≤_; rw [hq2]; exact Nat.le_of_ble_eq_true rfl) fun D=>?_
  show T _ _ _ _ ((D,PO.lst (txts (Txt.rsplitMax (Txt.slice q (some 1) none) (Str.ofString "}") 1)))::_) _ _ _
  rw [hq2]
  refine T_assignAll1 ?_
  refine T_assignUL R.hand (.head _) rfl rfl rfl ?_
  intro t4
  wtm_at "t_run"
  intro t5
  wtm_at "t_run"
  refine UA_nil ?_
  refine T.drop (σ':=(L,.ns [(Str.ofString "tag", .str tag 0),(Str.ofString "uri", .str u 0),(Str.ofString "uri", .none),(Str.ofString "qname", .str q 0),(Str.ofString "self", .ref p.x)])::_) ?_ (.cons _ (.cons _ (.cons _ (List.Sublist.refl _))))
  wtm_at "t_run"
  refine T_callT0 ?_
  refine T_newSt fun pse=>?_
  refine T_stL (by wtm_at "r_ur") (by rfl) (by rfl) ?_
  dsimp only
  dsimp only [er]
  refine T.nd fun hnd0=>?_
  have hdl:p.dl ≠ p.nn:=fun e=>by
    simp only [List.map_cons,List.nodup_cons] at hnd0
    exact hnd0.2.2.2.2.2.1 (by rw [e]; exact .tail _ (.head _))
  clear hnd0
  have hvl:vs.length = us.length:=by rw [hp.len,nsP,List.length_mapIdx]
  have hK':∀ C':Cx,C'.K = C.K→C'.K = KK w.params:=fun _ e=>e.trans hK
  refine T_cons ?_
  refine T_forNs (x:=p.x) (dl:=p.dl) (nn:=p.nn) (tt:=p.tt) (vs:=vs) hK ((R.deeper _).le (by wtm_at "om")) (by wtm_at "r_mem") (by wtm_at "r_mem") (by wtm_at "r_mem") hdl (by wtm_at "om") ?hev (fun _=>rfl)
    (fun r τ=>Ex4 fun m P n k=>Al10 (τ = (pse,stp prog w P n)::(L,.ns m)::(p.led prog w us vs tl ++ ρ)) (r = (vs ++ [Value.ref p.tt]).drop k) (n≤k) (k≤us.length + 1) ((∀ j,j < k→us[j]? ≠ some u)) ((k≤us.length→∀ y,P y = true→∃ j,j < k∧y = pre j)) (m.lookup (Str.ofString "uri") = some (.str u 0)) (m.lookup (Str.ofString "tag") = some (.str tag 0)) (m.lookup (Str.ofString "prefixes_seen") = some (.ref pse)) (m.lookup (Str.ofString "self") = some (.ref p.x))) ?h0 ?hn ?turn ?fin
  case hev =>
    intro Q E s S k
    refine MethodCall_ (T.keep (v:=.ref p.x) ?_ S fun s₁ S₁=>T.keep (v:=(.ref 124,[.ref p.x])) ?_ S₁ fun s₂ S₂=>callWith_K S₂.kin (keep_of hK (by decide)) (T.keep (v:=[.ref p.de]) ?_ S₂ fun s₃ S₃=>⟨S₃.kin,k s₃ S₃⟩) (by with_unfolding_all rfl) (by with_unfolding_all rfl)) (he:=by rfl)
    · wtm_at "t_run"
      exact ⟨rfl,rfl⟩
    · wtm_at "t_run"
      exact ⟨rfl,rfl⟩
    · wtm_at "t_run"
      exact ⟨rfl,rfl⟩
  case h0=>exact ⟨_,_,0,0,rfl,rfl,Nat.le_refl _,Nat.zero_le _,fun j hj=>absurd hj (Nat.not_lt_zero _),fun _ y hy=>(nomatch hy),rfl,rfl,rfl,rfl⟩
  case hn =>
    rintro r τ ⟨m,P,n,k,rfl,_⟩
    refine ⟨.tail _ (.tail _ (List.mem_append_left _ ?_)),.tail _ (.tail _ (List.mem_append_left _ ?_)),.tail _ (.tail _ (List.mem_append_left _ ?_))⟩ <;> (unfold QA.led; wtm_at "r_mem")
  case turn =>
    rintro C' v r τ own hC' hJ
    refine T.opq2 fun Q1 hQ1=>?_
    obtain ⟨m,P,n,k,rfl,hr,hnk,hk,hno,hP,l1,l2,l3,l4⟩:=hJ
    have hKC:=hK' C' hC'
    have hkl:k≤us.length:=by
      apply Classical.byContradiction
      intro hgt
      rw [List.drop_eq_nil_iff.mpr (by rw [List.length_append,List.length_singleton]; wtm_at "om")] at hr
      cases hr
    have hd:(vs ++ [Value.ref p.tt])[k]? = some (er v)∧r = (vs ++ [Value.ref p.tt]).drop (k + 1):=by
      have hlt:k < (vs ++ [Value.ref p.tt]).length:=by rw [List.length_append,List.length_singleton]; wtm_at "om"
      rw [List.drop_eq_getElem_cons hlt] at hr
      injection hr with h1 h2
      exact ⟨by rw [List.getElem?_eq_getElem hlt,h1],h2⟩
    obtain ⟨hv,rfl⟩:=hd
    obtain ⟨TT,uk,pk,rfl,hTT,hcase⟩:Ex3 fun TT uk pk=>Al3 (v = .ref TT) ((TT,PO.tup [.str uk 0,.str pk 0])∈p.led prog w us vs tl ++ ρ) (((k < us.length∧us[k]? = some uk∧pk = pre k) ∨ (k = us.length∧uk = xmlU))):=by
      by_cases hlt:k < us.length
      · rw [List.getElem?_append_left (by wtm_at "om")] at hv
        obtain ⟨TT,pp,e1,e2,e3⟩:=(hp.at (i:=k)).2 _ hv
        rw [nsP,List.getElem?_mapIdx,List.getElem?_eq_getElem hlt] at e2
        injection e2 with e2
        subst e2
        exact ⟨TT,us[k],pre k,er_ref e1,List.mem_append_left _ (tl_led e3),.inl ⟨hlt,List.getElem?_eq_getElem hlt,rfl⟩⟩
      · have hk2:k = us.length:=by wtm_at "om"
        rw [List.getElem?_append_right (by wtm_at "om"),show k - vs.length = 0 by wtm_at "om"] at hv
        injection hv with hv
        exact ⟨p.tt,xmlU,xmlP,er_ref hv.symm,List.mem_append_left _ (by unfold QA.led; wtm_at "r_mem"),.inr ⟨hk2,rfl⟩⟩
    dsimp only [List.cons_append]
    generalize hσ:p.led prog w us vs tl ++ ρ ++ own = σ₁
    have hTT':(TT,PO.tup [.str uk 0,.str pk 0])∈σ₁:=by rw [← hσ]; exact List.mem_append_left _ hTT
    refine T_assignT2 R.hand (.tail _ (.tail _ hTT')) rfl rfl ?_
    wtm_at "t_vs"
    intro t6 t7
    wtm_at "t_run"
    refine T_eqS ?_
    wtm_at "t_run"
    by_cases hu:uk = u
    · subst hu
      obtain ⟨hlt,huk,rfl⟩:k < us.length∧us[k]? = some uk∧pk = pre k:=by
        rcases hcase with h | h
        · exact h
        · exact absurd h.2 hx
      have hmem:uk∈us:=List.mem_of_getElem? huk
      have hPk:P (pre k) = false:=by
        cases hc:P (pre k) with
        | false=>rfl
        | true =>
          obtain ⟨j,hj,e⟩:=hP hkl _ hc
          have:=pre_inj k (by wtm_at "om") j (by wtm_at "om") e
          wtm_at "om"
      have hpl:=pre_len k (by wtm_at "om")
      refine ifT (by simp) ?_
      wtm_at "t_run"
      refine T_notInSt (by wtm_at "r_mem") (by wtm_at "om") ?_
      rw [hPk]
      wtm_at "t_run"
      refine T_trS (by wtm_at "om") ?_
      refine ifT (by simp [hpl.2]) ?_
      have hl2:(pre k ++ Str.ofString ":").length≤20:=by rw [Str.length_append]; show _ + 1≤_; wtm_at "om"
      refine T_FStr (T_jpN0 (by wtm_at "r_mem") (by wtm_at "t_look") (by wtm_at "om") ?_)
      refine T_jpC (by show _ + 1≤_; wtm_at "om") ?_
      refine T_jpNE (by wtm_at "r_mem") (by wtm_at "t_look") (by wtm_at "om") ?_
      refine T_jp0E (by rw [Str.length_append]; wtm_at "om") fun _=>?_
      wtm_at "t_run"
      subst hσ
      have hadd:nsAdd us uk = us:=if_pos hmem
      have hidx:us.idxOf uk = k:=idx_at huk hno
      refine hQ1 _ _ ⟨_,?_,h _ vs tl (List.Sublist.refl _) (by rw [hadd]; exact hp)⟩
      rw [hadd,qT,hidx]
      refine List.Sublist.cons_cons _ (.cons _ (.cons _ ?_))
      exact List.sublist_append_left _ _
    · refine ifF (by rw [str_beq]; exact decide_eq_false hu) ?_
      refine ifF rfl ?_
      wtm_at "t_run"
      refine T_gmAddSt (by wtm_at "r_mem") (by wtm_at "om") ?_
      wtm_at "t_run"
      refine T_addSt (σ':=(pse,stp prog w (fun y=>P y || decide (y = pk)) (if P pk then n else n + 1))::(L,PO.ns ((Str.ofString "prefix", Value.str pk 0)::(Str.ofString "u", Value.str uk 0)::m))::σ₁) (by wtm_at "om") .head ?_
      wtm_at "t_run"
      subst hσ
      refine hQ1 _ _ ⟨_,⟨(Str.ofString "prefix", Value.str pk 0)::(Str.ofString "u", Value.str uk 0)::m,(fun y=>P y || decide (y = pk)),(if P pk then n else n + 1),k + 1,rfl,rfl,?_,Nat.succ_le_succ hkl,?_,?_,l1,l2,l3,l4⟩,List.Sublist.refl _⟩
      · split <;> wtm_at "om"
      · intro j hj
        by_cases hjk:j < k
        · exact hno j hjk
        · have e:j = k:=by wtm_at "om"
          subst e
          rcases hcase with h | h
          · rw [h.2.1]; exact fun e=>hu (by injection e)
          · rw [h.1,List.getElem?_eq_none (Nat.le_refl _)]; exact fun e=>by cases e
      · intro hlt y hy
        rw [Bool.or_eq_true,decide_eq_true_eq] at hy
        rcases hy with hy | hy
        · obtain ⟨j,hj,e⟩:=hP hkl y hy
          exact ⟨j,Nat.lt_succ_of_lt hj,e⟩
        · rcases hcase with h | h
          · exact ⟨k,Nat.lt_succ_self _,hy.trans h.2.2⟩
          · wtm_at "om"
  case fin =>
    rintro τ ⟨m,P,n,k,rfl,hr,hnk,hk,hno,hP,l1,l2,l3,l4⟩
    have hk':us.length + 1≤k:=by
      have:=List.drop_eq_nil_iff.mp hr.symm
      rw [List.length_append,List.length_singleton] at this
      wtm_at "om"
    have hu:u ∉ us:=fun hm=>by
      obtain ⟨j,hj⟩:=List.mem_iff_getElem?.mp hm
      have hlt:j < us.length:=by
        apply Classical.byContradiction
        intro hge
        rw [List.getElem?_eq_none (by wtm_at "om")] at hj
        cases hj
      exact hno j (by wtm_at "om") hj
    unfold QA.led
    dsimp only [List.cons_append,List.nil_append]
    have hva:valueAt (nsD us) u = none:=valueAt_none_of_not_mem (by rw [nsD_keys]; exact hu)
    have hnl:(nsD us).length = us.length:=by unfold nsD; rw [List.length_mapIdx]
    wtm_at "t_run"
    refine T_inD (by wtm_at "r_mem") ?_
    rw [hva]
    wtm_at "t_run"
    refine T_AssignS ?_ (by exact rfl) (by exact rfl)
    refine T_FStr (T_jpC0 (Nat.le_of_ble_eq_true rfl) ?_)
    refine T_jp1 (T_fv ?_)
    wtm_at "t_run"
    refine T_lenD (by wtm_at "r_mem") (by wtm_at "om") fun t8=>?_
    rw [hnl]
    refine T_fvI (by wtm_at "om") fun t9=>?_
    have hpl:=pre_len us.length (by wtm_at "om")
    refine ⟨_,_,rfl,by have:=hpl.1; unfold pre at this; rw [Str.length_append] at this; wtm_at "om", ?_⟩
    show T _ _ _ _ _ (joinParts (pre us.length) _) _ _
    refine T_jp0E (by wtm_at "om") fun _=>?_
    refine T_assign2 ?_ (by exact rfl)
    wtm_at "t_run"
    refine T_assignSub ?_
    wtm_at "t_run"
    refine T_setItemD (by wtm_at "r_ur") (by wtm_at "om") ?_
    rw [stored_absent hva]
    dsimp only [er]
    rw [← nsD_add]
    wtm_at "t_run"
    refine T_itemLneg (by wtm_at "r_mem") (by decide) (by exact (by decide:-(2:Int)≤-1)) (by decide) (by exact rfl) ?_
    wtm_at "t_vs"
    wtm_at "t_run"
    refine T_append (by wtm_at "r_ur") (by wtm_at "om") ?_
    refine T.perm (σ':=_::_::_::_::_::_::_::_::_::_::(tl ++ ρ)) ?_ (List.perm_middle (l₁:=[_,_,_,_,_,_,_,_,_])).symm
    wtm_at "t_run"
    have hl2:(pre us.length ++ Str.ofString ":").length≤20:=by rw [Str.length_append]; show _ + 1≤_; wtm_at "om"
    refine T_FStr (T_jpN0 (by wtm_at "r_mem") (by wtm_at "t_look") (by wtm_at "om") ?_)
    refine T_jpC (by show _ + 1≤_; wtm_at "om") ?_
    refine T_jpNE (by wtm_at "r_mem") (by wtm_at "t_look") (by wtm_at "om") ?_
    refine T_jp0E (by rw [Str.length_append]; wtm_at "om") fun _=>?_
    wtm_at "t_run"
    have hadd:nsAdd us u = us ++ [u]:=if_neg hu
    have hidx:(us ++ [u]).idxOf u = us.length:=by rw [List.idxOf_append,if_neg hu,List.idxOf_cons_self,Nat.zero_add]
    refine' ⟨_,?zS,h _ (vs ++ [?zV]) ((?zA,PO.tup [.str u 0,.str (pre us.length) 0])::tl) (List.sublist_cons_self _ _) ?zP⟩
    case zS =>
      rw [hadd,qT,hidx]
      refine List.Sublist.cons_cons _ (.cons _ (.cons _ ?_))
      exact List.Sublist.refl _
    case zP =>
      rw [hadd,nsP_add]
      exact prs.app (hp.mono fun _ h=>.tail _ h) (.cons (.head _) .nil)
end
section
variable {prog:Program} {w:World} {A:Around} {E:Value→Shared→Prop} {C:Cx} {σ:Led} {s:Shared} {Q:Value→Shared→Prop}
noncomputable def esc1 (x y z:Str):Str:=if Txt.contains x y = true then Txt.replace x y z else x
theorem escIf {env:Env} {n x y z:Str} {m:List (Str × Value)} {k1 k2 k3:Nat} {p1 p2 p3 p4 p5 p6 p7 p8 p9 p10 p11:Pos} {Q:Flow→Shared→Prop} (S:Sat C ((env.locals,.ns m)::σ) s) (hm:m.lookup n = some (.str x 0)) (hyz:(y == z) = false)
    (hb:x.length + (x.length + 1) * z.length≤16777216) (hk:env.scope.kind = .function) (hn:env.kindOf n = some .local) (hd:(n == ("__debug__" : Str)) = false)
    (hsw:swapsWith (.Call (.Attribute (.Name n p5) "replace" p6) [.Constant (.str y) k2 p7,.Constant (.str z) k3 p8] [] p9) (some (.Name n p4)) p10.line env = pure false)
    {pl:Sem Bool} (he:eval (.Call (.Attribute (.Name n p5) "replace" p6) [.Constant (.str y) k2 p7,.Constant (.str z) k3 p8] [] p9) env = (do
      let ov ← eval (.Name n p5) env
      standAt p6.atName
      let (f,first) ← holding [ov] (getMethod ov (Str.ofString "replace") pl)
      callWith p9 f first (backTo p9 (starEach [.Constant (.str y) k2 p7,.Constant (.str z) k3 p8] env)) []))
    (h:∀ m' s',m'.lookup n = some (.str (esc1 x y z) 0)→Sat C ((env.locals,.ns m')::σ) s'→Q .next s') :
    wpAny (model prog w) A (exec (.If (.Compare (.Constant (.str y) k1 p1) [.In] [.Name n p2] p3) [.Assign [.Name n p4] (.Call (.Attribute (.Name n p5) "replace" p6) [.Constant (.str y) k2 p7,.Constant (.str z) k3 p8] [] p9) p10] [] p11) env) Q E s:=by
  refine wpAny_If (wpAny_isTrue_Compare1 (cstr S fun t s₁ S₁=>wpAny_Name (ldL S₁ (.head _) hm hk hn ?_) hd))
  intro t1
  refine SB.contains (wpAny_truthy_bool ?_)
  cases hc:Txt.contains x y with
  | false =>
    refine ifF rfl (wpAny_execs_nil (h m s₁ ?_ S₁))
    unfold esc1; rw [hc]; exact hm
  | true =>
    refine ifT rfl (wpAny_execs_cons (wpAny_Assign_Name (hs:=hsw) (MethodCall_ (he:=he) (wpAny_Name (ldL S₁ (.head _) hm hk hn ?_) hd))))
    intro t2
    with_reducible refine GM.replace ?_
    refine replaceS S₁ hyz hb fun t3 s₂ S₂=>?_
    refine stL S₂ .head hn hk fun s₃ S₃=>wpAny_execs_nil (h _ s₃ ?_ S₃)
    unfold esc1; rw [hc,if_pos rfl,List.lookup_cons]; simp [er]
theorem esc1_len {x y z:Str} {a b:Nat} (hx:x.length≤a) (hz:z.length≤b):(esc1 x y z).length≤a + (a + 1) * b:=by
  have hm:(x.length + 1) * z.length≤(a + 1) * b:=Nat.mul_le_mul (Nat.succ_le_succ hx) hz
  unfold esc1
  split
  · unfold Txt.replace
    split
    · wtm_at "om"
    · have h1:=StrLaws.occ_length_le x y 0 x.length (x.length + 1)
      have hy:(Builtin.Str.glued y (Builtin.Str.partsBetween x (Builtin.Str.occurrences x y 0 x.length (x.length + 1)) y.length)).length = x.length:=by rw [StrLaws.glued_between_self]
      rw [size_glued,length_partsBetween,Nat.add_sub_cancel] at hy
      rw [size_glued,length_partsBetween,Nat.add_sub_cancel]
      have h2:(Builtin.Str.occurrences x y 0 x.length (x.length + 1)).length * z.length≤(x.length + 1) * z.length:=Nat.mul_le_mul_right _ h1
      wtm_at "om"
  · wtm_at "om"
noncomputable def esA (x:Str):Str:=esc1 x (Str.ofString "&") (Str.ofString "&amp;")
noncomputable def esB (x:Str):Str:=esc1 (esA x) (Str.ofString "<") (Str.ofString "&lt;")
noncomputable def esC (x:Str):Str:=esc1 (esB x) (Str.ofString "\"") (Str.ofString "&quot;")
noncomputable def esD (x:Str):Str:=esc1 (esC x) (Str.ofString "\t") (Str.ofString "&#x9;")
noncomputable def esE (x:Str):Str:=esc1 (esD x) (Str.ofString "\n") (Str.ofString "&#xA;")
noncomputable def esF (x:Str):Str:=esc1 (esE x) (Str.ofString "\r") (Str.ofString "&#xD;")
theorem esc_attrib {x:Str} {t:Tok} (hK:C.K = KK w.params) (S:Sat C σ s) (R:Rm 2 A) (hx:x.length≤20)
    (hQ:∀ t s',Sat C σ s'→Q (.str (esF x) t) s'):wpAny (model prog w) A (call (.ref 217) [.str x t]) Q E s:=by
  have l1:(esA x).length≤125:=esc1_len hx (show _≤5 from Nat.le_refl _)
  have l2:(esB x).length≤629:=esc1_len l1 (show _≤4 from Nat.le_refl _)
  have l3:(esC x).length≤4409:=esc1_len l2 (show _≤6 from Nat.le_refl _)
  have l4:(esD x).length≤26459:=esc1_len l3 (show _≤5 from Nat.le_refl _)
  have l5:(esE x).length≤158759:=esc1_len l4 (show _≤5 from Nat.le_refl _)
  refine' callP (m:=[(Str.ofString "text", .str x 0)]) S R.room (ho:=?k1) (hcd:=?k2) (hbind:=?k3) (hloc:=?k4) (hm:=?k0) (h:=?k5) ?k6 ?k7 ?k8 ?k9
  case k1=>rw [hK]; exact lookup_KK rfl rfl
  case k2=>wtm_at "r_k"
  case k3=>kernel_rfl
  case k4=>kernel_rfl
  case k0=>exact rfl
  case k6=>rfl
  case k7=>rfl
  case k8=>rfl
  case k9=>decide
  intro L s₁ S₁
  refine wpAny_execs_cons (wpAny_Try_except ?_)
  refine wpAny_execs_cons (escIf S₁ rfl (by decide) (by show _ + _ * 5≤_; wtm_at "om") rfl rfl (by decide) rfl rfl fun m1 s₂ l1 S₂=>?_)
  refine wpAny_execs_cons (escIf (x:=esA x) S₂ l1 (by decide) (by show _ + _ * 4≤_; wtm_at "om") rfl rfl (by decide) rfl rfl fun m2 s₃ l2 S₃=>?_)
  refine wpAny_execs_cons (escIf (x:=esB x) S₃ l2 (by decide) (by show _ + _ * 6≤_; wtm_at "om") rfl rfl (by decide) rfl rfl fun m3 s₄ l3 S₄=>?_)
  refine wpAny_execs_cons (escIf (x:=esC x) S₄ l3 (by decide) (by show _ + _ * 5≤_; wtm_at "om") rfl rfl (by decide) rfl rfl fun m4 s₅ l4 S₅=>?_)
  refine wpAny_execs_cons (escIf (x:=esD x) S₅ l4 (by decide) (by show _ + _ * 5≤_; wtm_at "om") rfl rfl (by decide) rfl rfl fun m5 s₆ l5 S₆=>?_)
  refine wpAny_execs_cons (escIf (x:=esE x) S₆ l5 (by decide) (by show _ + _ * 5≤_; wtm_at "om") rfl rfl (by decide) rfl rfl fun m6 s₇ l6 S₇=>?_)
  refine T.kN (Q:=fun fl σ'=>(∃ t,fl = .ret (.str (esF x) t))∧σ' = (L,.ns m6)::σ) ?_ S₇ ?_
  · wtm_at "t_run"
    exact ⟨⟨_,rfl⟩,rfl⟩
  rintro fl σ' s₈ ⟨⟨t1,rfl⟩,rfl⟩ S₈
  exact hQ _ _ (S₈.sub (List.sublist_cons_self _ _))
end
section
variable {prog:Program} {w:World} {A:Around} {E:Value→Led→Prop} {C:Cx} {σ:Led} {Q:Value→Led→Prop}
theorem T_esc {x:Str} {t:Tok} (hK:C.K = KK w.params) (R:Rm 2 A) (hx:x.length≤20) (h:∀ t,Q (.str (esF x) t) σ):T prog w C A σ (call (.ref 217) [.str x t]) Q E:=fun _ S=>esc_attrib hK S R hx fun _ _ S'=>⟨_,h _,S'⟩
end
noncomputable def lam01:LamTab:={ P:=172,pos:=⟨191,71,191,96⟩,qual:=(Str.ofString "C14NWriterTarget._start" ++ Str.ofString ".<locals>.") ++ Str.ofString "<lambda>" }
theorem hd174 {K:Frag} {P:Params} (hK:K = KK P) (h:Heap) (X:K.In h):CodeHd h 174 172:=by
  subst hK
  exact ⟨_,_,_,_,_,_,_,_,_,X _ _ (lookup_KK rfl rfl),rfl,rfl,rfl,rfl,rfl,rfl,rfl,rfl,by decide⟩
theorem Rm.line {A:Around} {n:Nat} (R:Rm (n + 1) A):A.units + 12 < cLine:=by have:=R.un; unfold cLine; wtm_at "om"
noncomputable def nm (p:Str × Str):Str:=Str.ofString "{" ++ p.1 ++ (Str.ofString "}" ++ p.2)
structure NmOk (p:Str × Str):Prop where
  l1:p.1.length≤20
  l2:p.2.length≤20
  ne:p.1.length ≠ 0
  hq1:(Txt.slice (nm p) none (some 1)).cps.toList = (Str.ofString "{").cps.toList
  hq2:Txt.rsplitMax (Txt.slice (nm p) (some 1) none) (Str.ofString "}") 1 = [p.1,p.2]
  hk:Txt.splitMax (nm p) (Str.ofString "}") 1 = [Str.ofString "{" ++ p.1,p.2]
  hx:p.1 ≠ xmlU
  es:(esF p.1).length≤120
theorem nm_len {p:Str × Str} (h:NmOk p):(nm p).length≤42:=by
  have h1:=h.l1
  have h2:=h.l2
  unfold nm
  rw [Str.length_append,Str.length_append,Str.length_append]
  show 1 + _ + (1 + _)≤_
  wtm_at "om"
noncomputable def kvN (N:List (Str × Str)):List (Str × Value):=N.map fun p=>(nm p,.str p.1 0)
theorem kvN_keys (N:List (Str × Str)):(kvN N).map (·.1) = N.map nm:=by unfold kvN; rw [List.map_map]; rfl
noncomputable def kf (y:Str):Str × Str:=match Txt.splitMax y (Str.ofString "}") 1 with | [a,b]=>(a,b) | _=>(y,y)
theorem kf_nm {p:Str × Str} (h:NmOk p):kf (nm p) = (Str.ofString "{" ++ p.1,p.2):=by unfold kf; rw [h.hk]
theorem app_inj {c x y:Str} (h:c ++ x = c ++ y):x = y:=by
  have e:∀ z:Str,(c ++ z).cps.toList = c.cps.toList ++ z.cps.toList:=fun z=>by show (c.cps ++ z.cps).toList = _; simp
  refine str_ext (List.append_cancel_left (as:=c.cps.toList) ?_)
  rw [← e,← e,h]
theorem kf_inj {p q:Str × Str} (hp:NmOk p) (hq:NmOk q) (h:kf (nm p) = kf (nm q)):p = q:=by
  rw [kf_nm hp,kf_nm hq] at h
  injection h with h1 h2
  exact Prod.ext (app_inj h1) h2
theorem nm_inj {p q:Str × Str} (hp:NmOk p) (hq:NmOk q) (h:nm p = nm q):p = q:=kf_inj hp hq (by rw [h])
theorem bef_brace (c:Nat) {x y z:Str} (hz:z.cps.toList = [c]):bef (z ++ x) (z ++ y) = bef x y:=by
  have e:∀ x:Str,(z ++ x).cps.toList = c::x.cps.toList:=fun x=>by show (z.cps ++ x.cps).toList = _; simp [hz]
  unfold bef
  rw [e,e]
  simp [List.cons_lt_cons_iff]
theorem lex_kf {p q:Str × Str} (hp:NmOk p) (hq:NmOk q) (h:lex bef bef (kf (nm p)) (kf (nm q)) = true):lex bef bef p q = true:=by
  rw [kf_nm hp,kf_nm hq] at h
  unfold lex at *
  dsimp only at h
  by_cases e:p.1 = q.1
  · rw [if_pos e]; rw [if_pos (by rw [e])] at h; exact h
  · rw [if_neg e]; rw [if_neg (fun x=>e (app_inj x)),bef_brace 123 rfl] at h; exact h
theorem perm_of_map {α β:Type} {f:α→β}:∀ {zs:List β} {l:List α},zs.Perm (l.map f)→∃ ys:List α,ys.Perm l∧zs = ys.map f
  | [],l,h=>by
    have:=List.nil_perm.mp h
    exact ⟨[],by rw [List.map_eq_nil_iff.mp this],rfl⟩
  | z::r,l,h=>by
    obtain ⟨x,hx,e⟩:=List.mem_map.mp (h.mem_iff.mp (List.mem_cons_self))
    obtain ⟨l1,l2,rfl⟩:=List.append_of_mem hx
    have h2:(z::r).Perm (f x::(l1 ++ l2).map f):=h.trans (by rw [List.map_append,List.map_cons,List.map_append]; exact List.perm_middle)
    rw [e] at h2
    obtain ⟨ys,hy,e2⟩:=perm_of_map ((List.perm_cons z).mp h2)
    exact ⟨x::ys,(hy.cons x).trans List.perm_middle.symm,by rw [List.map_cons,e,← e2]⟩
noncomputable def firsts (l:List (Str × Str)):List Str:=l.foldl (fun us p=>nsAdd us p.1) []
theorem firsts_add (l:List (Str × Str)) (p:Str × Str):firsts (l ++ [p]) = nsAdd (firsts l) p.1:=by unfold firsts; rw [List.foldl_append]; rfl
theorem nsAdd_mem {us:List Str} {u v:Str}:v∈nsAdd us u↔v∈us ∨ v = u:=by
  unfold nsAdd
  split
  · next h=>exact ⟨.inl,fun h'=>h'.elim id fun e=>e ▸ h⟩
  · rw [List.mem_append,List.mem_singleton]
theorem nsAdd_nodup {us:List Str} {u:Str} (h:us.Nodup):(nsAdd us u).Nodup:=by
  unfold nsAdd
  split
  · exact h
  · next hn=>exact List.nodup_append.mpr ⟨h,List.nodup_cons.mpr ⟨List.not_mem_nil,.nil⟩,fun a ha b hb e=>hn (by rw [← List.mem_singleton.mp hb,← e]; exact ha)⟩
theorem firsts_from (l:List (Str × Str)):(firsts l).Nodup∧∀ u,u∈firsts l↔u∈l.map (·.1):=by
  have key:∀ (l:List (Str × Str)) (us:List Str),us.Nodup→(l.foldl (fun us p=>nsAdd us p.1) us).Nodup∧∀ u,u∈l.foldl (fun us p=>nsAdd us p.1) us↔u∈us ∨ u∈l.map (·.1):=by
    intro l
    induction l with
    | nil=>exact fun us h=>⟨h,fun u=>by simp⟩
    | cons p r ih =>
      intro us h
      obtain ⟨h1,h2⟩:=ih (nsAdd us p.1) (nsAdd_nodup h)
      exact ⟨h1,fun u=>by rw [List.foldl_cons,h2,nsAdd_mem,List.map_cons,List.mem_cons,or_assoc]⟩
  obtain ⟨h1,h2⟩:=key l [] .nil
  exact ⟨h1,fun u=>by unfold firsts; rw [h2]; simp⟩
theorem idx_add {us:List Str} {u v:Str} (h:u∈us):(nsAdd us v).idxOf u = us.idxOf u:=by
  unfold nsAdd
  split
  · rfl
  · rw [List.idxOf_append,if_pos h]
theorem qT_add {us:List Str} {u v tag:Str} (h:u∈us):qT (nsAdd us v) u tag = qT us u tag:=by unfold qT; rw [idx_add h]
structure Parsed (us:List Str) (tps:Led) (ac:List (Str × Value)) (l:List (Str × Str)):Prop where
  keys:ac.map (·.1) = l.map nm
  val:∀ p∈l,∃ T,valueAt ac (nm p) = some (.ref T)∧(T,PO.tup (qT us p.1 p.2))∈tps
theorem valueAt_app {kv:List (Str × Value)} {k k':Str} {v:Value}:valueAt (kv ++ [(k',v)]) k = (valueAt kv k).or (if k' = k then some v else none):=by
  unfold valueAt
  rw [List.find?_append]
  cases h:kv.find? (fun x=>decide (x.1 = k)) with
  | some x=>simp
  | none =>
    simp only [Option.none_or,Option.map_none]
    rw [List.find?_cons]
    by_cases e:k' = k
    · simp [e]
    · simp [e]
theorem Parsed.add {us:List Str} {tps:Led} {ac:List (Str × Value)} {l:List (Str × Str)} {p:Str × Str} {T:Addr} (h:Parsed us tps ac l) (hu:∀ r∈l,r.1∈us) (hp:nm p ∉ l.map nm) :
    Parsed (nsAdd us p.1) ((T,PO.tup (qT (nsAdd us p.1) p.1 p.2))::tps) (stored ac (nm p) (.ref T)) (l ++ [p]):=by
  have hv:valueAt ac (nm p) = none:=valueAt_none_of_not_mem (by rw [h.keys]; exact hp)
  rw [stored_absent hv]
  refine ⟨by rw [List.map_append,List.map_append,h.keys]; rfl,fun q hq=>?_⟩
  rcases List.mem_append.mp hq with hq | hq
  · obtain ⟨T',h1,h2⟩:=h.val q hq
    refine ⟨T',by rw [valueAt_app,h1]; rfl,?_⟩
    rw [qT_add (hu q hq)]
    exact .tail _ h2
  · rw [List.mem_singleton.mp hq]
    exact ⟨T,by rw [valueAt_app,hv,if_pos rfl]; rfl,.head _⟩
noncomputable def txt (v:Value):Str:=match v with | .str x _=>x | _=>Str.empty
noncomputable def xmN (i:Nat):Str:=Str.ofString "xmlns:" ++ pre i
noncomputable def xm (us:List Str):List (At × At):=us.mapIdx fun i u=>(.s (xmN i),.s u)
theorem xm_at (us:List Str):(nsP us).map (fun q=>((.str (Str.ofString "xmlns:" ++ txt q.2) 0,q.1):Value × Value)) = (xm us).map atp:=by
  apply List.ext_getElem?
  intro i
  unfold nsP xm
  rw [List.getElem?_map,List.getElem?_map,List.getElem?_mapIdx,List.getElem?_mapIdx]
  cases us[i]? <;> rfl
theorem kin_s {ps:List (At × At)} (h:∀ p∈ps,Ex2 fun x y=>p = (.s x,.s y)):Kin1 ps:=by
  intro p hp q hq
  obtain ⟨x,y,rfl⟩:=h p hp
  obtain ⟨x',y',rfl⟩:=h q hq
  exact ⟨rfl,rfl⟩
theorem xm_mem {us:List Str}:∀ p∈xm us,Ex2 fun x y=>p = (.s x,.s y):=by
  intro p hp
  obtain ⟨i,hi,rfl⟩:=List.mem_iff_getElem.mp hp
  exact ⟨_,_,List.getElem_mapIdx ..⟩
theorem xmN_lt:∀ i,i < 10→∀ j,j < 10→i < j→bef (xmN i) (xmN j) = true:=by decide +kernel
theorem xm_sorted {us:List Str} (h:us.length≤10):(xm us).Pairwise fun a b=>lex At.lt At.lt a b = true:=by
  rw [List.pairwise_iff_getElem]
  intro i j hi hj hij
  have hl:(xm us).length = us.length:=by unfold xm; rw [List.length_mapIdx]
  have e:∀ k (hk:k < (xm us).length),(xm us)[k] = (.s (xmN k),.s (us[k]'(hl ▸ hk))):=fun k hk=>List.getElem_mapIdx ..
  rw [e,e]
  have hb:=xmN_lt i (by wtm_at "om") j (by wtm_at "om") hij
  unfold lex
  dsimp only
  rw [if_neg (fun e=>by injection e with e; rw [e,bef_irr] at hb; cases hb)]
  exact hb
theorem sorted_nodup {α:Type} {lt:α→α→Bool} (O:Ord1 lt) {l:List α} (h:l.Pairwise fun a b=>lt a b = true):l.Nodup :=
  h.imp fun {a b} hab e=>by
    have:=O.as hab
    rw [e] at this hab
    rw [this] at hab
    cases hab
noncomputable def sq (p:Str × Str):At × At:=(.s (nm p),.s p.1)
theorem sq_at (N:List (Str × Str)):(N.map sq).map atp = (kvN N).map fun p=>((.str p.1 0,p.2):Value × Value):=by unfold kvN; rw [List.map_map,List.map_map]; rfl
theorem sq_mem {N:List (Str × Str)}:∀ p∈N.map sq,Ex2 fun x y=>p = (.s x,.s y):=by
  intro p hp
  obtain ⟨q,_,rfl⟩:=List.mem_map.mp hp
  exact ⟨_,_,rfl⟩
theorem sq_nodup {N:List (Str × Str)} (h:(N.map nm).Nodup):(N.map sq).Nodup:=by
  have e:(N.map sq).map (fun a=>match a.1 with | .s x=>x | _=>Str.empty) = N.map nm:=by rw [List.map_map]; rfl
  rw [← e] at h
  exact (List.pairwise_map.mp h).imp fun {a b} hab e=>hab (by rw [e])
theorem sq_bef {p q:Str × Str} (h:nm p ≠ nm q) (hl:lex At.lt At.lt (sq p) (sq q) = true):bef (nm p) (nm q) = true:=by
  unfold lex sq at hl
  dsimp only at hl
  rw [if_neg (fun e=>by injection e with e; exact h e)] at hl
  exact hl
noncomputable def rowS (us:List Str) (p:Str × Str):Str:=pre (us.idxOf p.1) ++ Str.ofString ":" ++ p.2
noncomputable def rowA (us:List Str) (p:Str × Str):At × At:=(.s (rowS us p),.s p.1)
noncomputable def spN:Str:=Str.ofString "{http://www.w3.org/XML/1998/namespace}space"
theorem sp_none {N:List (Str × Str)} (h:∀ r∈N,NmOk r):valueAt (kvN N) spN = none:=by
  refine valueAt_none_of_not_mem fun hm=>?_
  rw [kvN_keys] at hm
  obtain ⟨r,hr,e⟩:=List.mem_map.mp hm
  have h1:=(h r hr).hk
  rw [e] at h1
  have h2:Txt.splitMax spN (Str.ofString "}") 1 = [Str.ofString "{" ++ xmlU,Str.ofString "space"]:=by decide +kernel
  rw [h2] at h1
  injection h1 with h1 _
  exact (h r hr).hx (app_inj h1.symm)
theorem drop_c {α:Type} {xs:List α} {k:Nat} {v:α} {r:List α} (h:v::r = xs.drop k):∃ hlt:k < xs.length,v = xs[k]∧r = xs.drop (k + 1):=by
  have hlt:k < xs.length:=by
    apply Classical.byContradiction
    intro hge
    rw [List.drop_eq_nil_iff.mpr (by wtm_at "om")] at h
    cases h
  rw [List.drop_eq_getElem_cons hlt] at h
  injection h with h1 h2
  exact ⟨hlt,h1,h2⟩
theorem drop_cm {α β:Type} {f:α→β} {l:List α} {k:Nat} {b:β} {r:List β} (h:b::r = (l.map f).drop k):∃ hlt:k < l.length,b = f l[k]∧r = (l.map f).drop (k + 1):=by
  obtain ⟨hlt,h1,h2⟩:=drop_c h
  have hlt':k < l.length:=by rw [List.length_map] at hlt; exact hlt
  exact ⟨hlt',by rw [h1,List.getElem_map],h2⟩
theorem drop_nm {α β:Type} {f:α→β} {l:List α} {k:Nat} (h:[] = (l.map f).drop k):l.length≤k:=by
  have:=List.drop_eq_nil_iff.mp h.symm
  rw [List.length_map] at this
  exact this
theorem drop_at {α β:Type} {f:α→β} {l:List α} {k:Nat} {b:β} {r:List β} (h:b::r = (l.drop k).map f):∃ hlt:k < l.length,b = f l[k]∧r = (l.drop (k + 1)).map f∧l.take (k + 1) = l.take k ++ [l[k]]:=by
  have hlt:k < l.length:=by
    apply Classical.byContradiction
    intro hge
    rw [List.drop_eq_nil_iff.mpr (by wtm_at "om")] at h
    cases h
  rw [List.drop_eq_getElem_cons hlt,List.map_cons] at h
  injection h with h1 h2
  exact ⟨hlt,h1,h2,List.take_succ_eq_append_getElem hlt⟩
noncomputable def rest1 (prog:Program) (w:World) (p:QA) (wl ad:Addr) (ws:List Str) (nsl psl:List Value) (N:List (Str × Str)) (ρ:Led):Led :=
  (p.wa,.raw (bndO "list.append" (.ref wl)))::(wl,.lst (txts ws))::(p.da,.lst [])::(p.ns,.lst nsl)::(p.ps,.lst psl)::(ad,dcp prog w (kvN N))::ρ
noncomputable def startDef:List Stmt × Scope:=match stAt [10,8] with
  | some (.FunctionDef _ _ body _ _ _ scope _ _ _)=>(body,scope)
  | _=>([],default)
noncomputable abbrev startB:List Stmt:=startDef.1
noncomputable abbrev startEnv (L:Addr):Env:=envX (Str.ofString "C14NWriterTarget._start") startDef.2 L 175 (.ref 174) [(Str.ofString "parse_qname", L + 1 + 1),(Str.ofString "self", L + 1)]
noncomputable def attS (p:At × At):Str:=match p with
  | (.s k,.s v)=>Str.ofString " " ++ k ++ Str.ofString "=\"" ++ esF v ++ Str.ofString "\""
  | _=>Str.empty
noncomputable def AttOk (p:At × At):Prop:=Ex2 fun k v=>Al4 (p = (.s k,.s v)) (k.length≤60) (v.length≤20) ((esF v).length≤120)
theorem attS_len {p:At × At} (h:AttOk p):(attS p).length≤190:=by
  obtain ⟨k,v,rfl,h1,h2,h3⟩:=h
  show (Str.ofString " " ++ k ++ Str.ofString "=\"" ++ esF v ++ Str.ofString "\"").length≤_
  exact sl (sl (sl (sl (Nat.le_refl _) h1 (c:=61) rfl) (Nat.le_refl _) (c:=63) rfl) h3 (c:=183) rfl) (Nat.le_refl _) rfl
theorem xm_ok {us:List Str} (hz:us.length≤30) (h:∀ u∈us,u.length≤20∧(esF u).length≤120):∀ p∈xm us,AttOk p:=by
  intro p hp
  obtain ⟨i,hi,rfl⟩:=List.mem_iff_getElem.mp hp
  have hl:(xm us).length = us.length:=by unfold xm; rw [List.length_mapIdx]
  have hi':i < us.length:=hl ▸ hi
  refine ⟨xmN i,us[i],List.getElem_mapIdx ..,?_,(h _ (List.getElem_mem hi')).1,(h _ (List.getElem_mem hi')).2⟩
  exact sl (Nat.le_refl _) (pre_len i (Nat.lt_of_lt_of_le hi' hz)).1 rfl
theorem row_ok {us:List Str} {g:Str × Str} (hz:us.length≤29) (hg:NmOk g) (hu:g.1∈us):AttOk (rowA us g):=by
  refine ⟨_,_,rfl,?_,hg.l1,hg.es⟩
  exact sl (sl (pre_len _ (Nat.lt_of_lt_of_le (List.idxOf_lt_length_of_mem hu) (Nat.le_trans hz (Nat.le_succ _)))).1 (Nat.le_refl _) (c:=11) rfl) hg.l2 rfl
theorem foldl_len (l:List Str) (a:Nat):l.foldl (fun n p=>n + p.length + (Str.ofString "").length) a = a + (l.map (·.length)).sum:=by
  induction l generalizing a with
  | nil=>rfl
  | cons x r ih =>
    rw [List.foldl_cons,ih,List.map_cons,List.sum_cons]
    show a + x.length + 0 + _ = _
    rw [Nat.add_zero,Nat.add_assoc]
section
variable {prog:Program} {w:World} {C:Cx} {A:Around} {τ ρ:Led} {p:QA} {us:List Str} {vs zz:List Value} {wl n1 ad D2 D' L:Addr} {N ys:List (Str × Str)} {tg:Str × Str} {ac m:List (Str × Value)} {all:List (At × At)}
theorem T_startTail {Q:Value→Led→Prop} (hK:C.K = KK w.params) (R:Rm 12 A) (hs:p.seen = false) (hok:∀ r∈N,NmOk r) (hg:NmOk tg) (htg:tg∈ys) (hul:us.length≤9) (hu:tg.1∈us) (hpar:Parsed us τ ac ys) (hx:prs τ zz (all.map atp)) (hall:all ≠ []) (hal:all.length≤60) (hao:∀ a∈all,AttOk a)
    (l1:m.lookup (Str.ofString "attr_list") = some (.ref D2)) (l2:m.lookup (Str.ofString "parsed_qnames") = some (.ref D')) (l4:m.lookup (Str.ofString "attrs") = some (.ref ad)) (l5:m.lookup (Str.ofString "tag") = some (.str (nm tg) 0)) (l6:m.lookup (Str.ofString "qname_text") = some .none)
    (h:∀ n2,Q .none ((ad,dcp prog w (kvN N))::(p.wa,.raw (bndO "list.append" (.ref wl)))::(wl,.lst (txts [Str.ofString "<" ++ rowS us tg,Builtin.Str.glued (Str.ofString "") (all.map attS),Str.ofString ">"]))::(p.da,.lst [])::(p.ns,.lst [.ref n1,.ref n2])::(p.ps,.lst [.bool false,.bool false])::QA.led prog w { p with seen:=true } us vs τ)) :
    T prog w C (A.deeper (startEnv L)) ((D2,.lst zz)::(D',dcp prog w ac)::(ad,dcp prog w (kvN N))::(L,.ns m)::(L + 1,.cel (some (.ref p.x)))::(p.wa,.raw (bndO "list.append" (.ref wl)))::(wl,.lst (txts []))::(p.da,.lst [])::(p.ns,.lst [.ref n1])::(p.ps,.lst [.bool false])::QA.led prog w p us vs τ)
      (execs (startB.drop 9) (startEnv L)) (fun fl=>Up (fun v σ'=>Q v σ') (retv fl)) NoE:=by
  unfold QA.led
  rw [hs]
  refine T_cons ?_
  wtm_at "t_run"
  refine T_gmGet (by wtm_at "r_mem") ?_
  wtm_at "t_run"
  refine T_getNone (by wtm_at "r_mem") (sp_none hok) ?_
  wtm_at "t_run"
  refine T_itemLneg (by wtm_at "r_mem") (by decide) (by exact (by decide:-(1:Int)≤-1)) (by decide) (by exact rfl) ?_
  wtm_at "t_vs"
  wtm_at "t_run"
  obtain ⟨Tg,hv,hT⟩:=hpar.val tg htg
  have hpl:=pre_len (us.idxOf tg.1) (by have:=List.idxOf_lt_length_of_mem hu; wtm_at "om")
  have hg2:=hg.l2
  have hql:(rowS us tg).length≤40:=by unfold rowS; rw [Str.length_append,Str.length_append]; show _ + 1 + _≤_; wtm_at "om"
  refine T_itemD (by wtm_at "r_mem") (pv:=.ref Tg) hv ?_
  wtm_at "t_vs"
  wtm_at "t_run"
  have hzl:zz.length = all.length:=by rw [hx.len,List.length_map]
  refine T_itemT (by iterate 17 apply List.Mem.tail
                     exact hT) (by decide) (by decide) (by exact rfl) ?_
  wtm_at "t_vs"
  intro t1
  wtm_at "t_run"
  refine T_addS (by show 1 + (rowS us tg).length≤_; wtm_at "om") fun _=>?_
  wtm_at "t_run"
  refine T_callAppB (by wtm_at "r_mem") (by wtm_at "r_ur") (by exact Nat.zero_le _) ?_
  wtm_at "t_run"
  refine T_trL (by wtm_at "r_mem") (by wtm_at "om") ?_
  refine ifT (by cases zz with | nil=>exact absurd (List.length_eq_zero_iff.mp (hzl.symm.trans rfl)) hall | cons _ _=>rfl) ?_
  wtm_at "t_run"
  refine' T_LCg [] ?x1 ?x2 ?x3 ?_
  case x1=>exact rfl
  case x2=>exact rfl
  case x3=>decide
  wtm_at "t_run"
  refine' T.drop (σ':=?tauC) ?_ (List.Sublist.refl _)
  refine T_iterL (.head _) fun it=>?_
  refine' T_compM (po:=fun i=>[(it,itr D2 i)]) all atp (fun p=>some (.str (attS p) 0)) (drwL (l:=D2) (vs:=zz) R.hand) R.hand ?un (Nat.le_trans hal (Nat.le_of_ble_eq_true rfl)) ?v1 ?v2 ?v3 ?v4 ?ut ?uf (fun q τ h=>⟨.tail _ h.1,h.2.mono fun _=>.tail _⟩)
  case v1=>rfl
  case v2=>rfl
  case v3=>rfl
  case v4=>decide
  case un=>exact ⟨.head _,hx.mono fun x h=>List.mem_append_right [_,_,_,_,_,_,_,_,_,_,_,_,_,_,_,_,_] h⟩
  case ut =>
    intro σ₀ L3 m' pq hpq hm hτ
    obtain ⟨kk,v,rfl,hk1,hk2,hk3⟩:=hao pq hpq
    clear h hao hx hall hal hτ hpq hpar hok htg hu hs hpl hg2 hql hv hT hzl l1 l2 l4 l5 l6
    refine T_t0 ?_
    dsimp only [atp,At.v,er] at hm
    refine T.opq fun Q1 hQ1=>?_
    wtm_at "t_run"
    have hq1:=sl (Nat.le_refl (Str.ofString " ").length) hk1 (c:=61) rfl
    have hq2:=sl hq1 (Nat.le_refl (Str.ofString "=\"").length) (c:=63) rfl
    refine T_FStr (T_jpC0 (Nat.le_of_ble_eq_true rfl) ?_)
    refine T_jpN (by wtm_at "r_mem") (by wtm_at "t_look") (sa (Nat.le_refl (Str.ofString " ").length) hk1 rfl) ?_
    refine T_jpCE (sa hq1 (Nat.le_refl _) rfl) ?_
    refine T_jp1E (T_fv ?_)
    wtm_at "t_run"
    refine T_esc hK ((R.down.down.deeper _).le (by wtm_at "om")) hk2 fun _=>?_
    wtm_at "t_run"
    refine T_fvS (by wtm_at "om") fun _=>?_
    refine ⟨_,_,rfl,by wtm_at "om", ?_⟩
    have hq3:(Str.ofString " " ++ kk ++ Str.ofString "=\"" ++ esF v).length≤190:=by rw [Str.length_append]; wtm_at "om"
    refine T_jpCE (by show _ + 1≤_; wtm_at "om") ?_
    refine T_jp0E (by rw [Str.length_append]; show _ + 1≤_; wtm_at "om") fun _=>?_
    exact hQ1 _ _ ⟨rfl,List.Sublist.refl _⟩
  case uf =>
    rw [fmT]
    have hjl:((all.map attS).map (·.length)).sum≤190 * all.length:=by
      clear hx hall hzl hal h
      induction all with
      | nil=>exact Nat.le_refl _
      | cons a r ih =>
        have h1:=attS_len (hao a (.head _))
        have h2:=ih fun b hb=>hao b (.tail _ hb)
        simp only [List.map_cons,List.sum_cons,List.length_cons] at *
        wtm_at "om"
    have hgl:(Builtin.Str.glued (Str.ofString "") (all.map attS)).length≤190 * all.length:=by
      rw [size_glued]
      show _ + _ * 0≤_
      wtm_at "om"
    intro D4
    wtm_at "t_run"
    refine T_join (.head _) (by rw [foldl_len]; wtm_at "om") (by wtm_at "om") fun _=>?_
    wtm_at "t_run"
    dsimp only [List.nil_append]
    refine T_callAppB (by wtm_at "r_mem") (by wtm_at "r_ur") (by exact Nat.le_of_ble_eq_true rfl) ?_
    wtm_at "t_run"
    dsimp only [List.nil_append]
    refine T_callAppB (by wtm_at "r_mem") (by wtm_at "r_ur") (by exact Nat.le_of_ble_eq_true rfl) ?_
    wtm_at "t_run"
    dsimp only [List.cons_append,List.nil_append,er]
    rename_i n2
    refine ⟨_,?_,h n2⟩
    refine .cons _ (.cons _ (.cons _ (.cons _ (.cons_cons _ (.cons _ (.cons _ (.cons_cons _ (sub_cons rfl (.cons_cons _ (sub_cons rfl (sub_cons rfl ?_)))))))))))
    unfold QA.led
    exact .cons_cons _ (.cons_cons _ (List.Sublist.refl _))
end
section
variable {prog:Program} {w:World} {C:Cx} {A:Around} {σ σ' ρ:Led} {E:Value→Led→Prop} {env:Env} {s:Shared} {p:QA} {q tag u:Str} {t:Tok} {us:List Str} {vs:List Value} {tl:Led} {wl n1 ad:Addr} {N:List (Str × Str)} {tg:Str × Str}
theorem perm13 {α:Type} {x1 x2 x3 x4 x5 x6 x7 x8 y1 y2 y3 y4 y5:α} {l r:List α}:(x1::x2::x3::x4::x5::x6::x7::x8::(l ++ (y1::y2::y3::y4::y5::r))).Perm (x1::x2::x3::x4::x5::x6::x7::x8::y1::y2::y3::y4::y5::(l ++ r)) :=
  List.Perm.append_left [x1,x2,x3,x4,x5,x6,x7,x8] (List.perm_append_comm_assoc l [y1,y2,y3,y4,y5] r)
theorem permQ {α:Type} {X l r tp:List α}:(X ++ (tp ++ (l ++ r))).Perm (l ++ (X ++ (tp ++ r))) :=
  (List.Perm.append_left X (List.perm_append_comm_assoc tp l r)).trans (List.perm_append_comm_assoc X l (tp ++ r))
theorem permR {α:Type} {X l r tp:List α} {t:α}:(t::(l ++ (X ++ (tp ++ r)))).Perm (X ++ (t::(tp ++ (l ++ r)))) :=
  (List.Perm.cons t permQ.symm).trans List.perm_middle.symm
theorem TC.perm {c:Code} {R:Result→Led→Prop} (h:TC prog w C A σ' c R) (hs:σ.Perm σ'):TC prog w C A σ c R:=fun s S=>h s (S.perm hs)
theorem permS {α:Type} {F tl r tp:List α}:(tp ++ ((F ++ tl) ++ r)).Perm (F ++ (tl ++ (tp ++ r))):=by
  rw [List.append_assoc]
  exact (List.perm_append_comm_assoc tp F (tl ++ r)).trans (List.Perm.append_left F (List.perm_append_comm_assoc tp tl r))
theorem nsP_drop {us:List Str} {k:Nat} {pq:Value × Value} {r:List (Value × Value)} (h:pq::r = (nsP us).drop k):∃ hlt:k < us.length,pq = (.str us[k] 0,.str (pre k) 0)∧r = (nsP us).drop (k + 1)∧(nsP us).take (k + 1) = (nsP us).take k ++ [(.str us[k] 0,.str (pre k) 0)]:=by
  have hl:(nsP us).length = us.length:=by unfold nsP; rw [List.length_mapIdx]
  have hlt:k < (nsP us).length:=by
    apply Classical.byContradiction
    intro hge
    rw [List.drop_eq_nil_iff.mpr (by wtm_at "om")] at h
    cases h
  rw [List.drop_eq_getElem_cons hlt] at h
  injection h with h1 h2
  have e:(nsP us)[k] = (.str (us[k]'(by wtm_at "om")) 0,.str (pre k) 0):=List.getElem_mapIdx (i:=k) ..
  refine ⟨by wtm_at "om", h1.trans e,h2,?_⟩
  rw [List.take_succ_eq_append_getElem hlt,e]
theorem CompT.perm {e:Expr} {sc:Scope} {cl:List (Str × Addr)} {new:Sem Value} {use:Option (Value→Sem Unit)} {Q:Value→Led→Prop} {it:Value} (h:CompT prog w C A σ' env e sc cl new use Q E it) (hs:σ.Perm σ'):CompT prog w C A σ env e sc cl new use Q E it:=fun s S=>h s (S.perm hs)
theorem CompT.absL {e:Expr} {sc:Scope} {cl:List (Str × Addr)} {new:Sem Value} {use:Option (Value→Sem Unit)} {Q:Value→Led→Prop} {E:Value→Led→Prop} {it:Value} {env:Env} {z:Addr × PO} (X0:Led) {rest:Led}
    (h:∀ X:Led,X0 = X→CompT prog w C A (z::(X ++ rest)) env e sc cl new use Q E it):CompT prog w C A (z::(X0 ++ rest)) env e sc cl new use Q E it:=h _ rfl
theorem TC.absL {c:Code} {R:Result→Led→Prop} (P X0:Led) {rest:Led} (h:∀ X:Led,X0 = X→TC prog w C A (P ++ (X ++ rest)) c R):TC prog w C A (P ++ (X0 ++ rest)) c R:=h _ rfl
theorem T__start1 {Q:Value→Led→Prop} (hK:C.K = KK w.params) (hL:lam01∈C.lams) (R:Rm 12 A) (hs:p.seen = false) (hok:∀ r∈tg::N,NmOk r) (hnd:(tg::N).Nodup) (hz:N.length≤40) (hN:N ≠ []) (hA:∀ l:List Str,l.Nodup→(∀ u∈l,u∈(tg::N).map (·.1))→l.length≤9)
    (h:∀ (ys rs:List (Str × Str)) vs τ n2,ys.Perm (tg::N)→ys.Pairwise (fun a b=>lex bef bef a b = true)→rs.Perm N→rs.Pairwise (fun a b=>bef (nm a) (nm b) = true)→ρ.Sublist τ→prs τ vs (nsP (firsts ys)) →
      Q .none ((ad,dcp prog w (kvN N))::(p.wa,.raw (bndO "list.append" (.ref wl)))::(wl,.lst (txts [Str.ofString "<" ++ rowS (firsts ys) tg,Builtin.Str.glued (Str.ofString "") ((xm (firsts ys) ++ rs.map (rowA (firsts ys))).map attS),Str.ofString ">"]))::(p.da,.lst [])::(p.ns,.lst [.ref n1,.ref n2])::(p.ps,.lst [.bool false,.bool false]) ::
        QA.led prog w { p with seen:=true } (firsts ys) vs τ)) :
    T prog w C A (p.led prog w [] [] [] ++ rest1 prog w p wl ad [] [.ref n1] [.bool false] N ρ) (call (.ref 175) [.ref p.x,.str (nm tg) t,.ref ad,.ref p.nn]) Q E:=by
  refine T_callTC ?_
  refine' T_callG (m:=[(Str.ofString "qname_text", .none),(Str.ofString "new_namespaces", .ref p.nn),(Str.ofString "attrs", .ref ad),(Str.ofString "tag", .str (nm tg) 0)]) (binds:=[(Str.ofString "self", .ref p.x),(Str.ofString "tag", .str (nm tg) t),(Str.ofString "attrs", .ref ad),(Str.ofString "new_namespaces", .ref p.nn),(Str.ofString "qname_text", .none)])
    (fun L=>[(Str.ofString "parse_qname", L + 1 + 1),(Str.ofString "self", L + 1)]) (fun L=>[(L + 1 + 1,.cel none),(L + 1,.cel (some (.ref p.x)))]) R.room (ho:=?ho) (hcd:=?hcd) (hbind:=?hb) (hloc:=?hloc) (hm:=?hm) (hcells:=?hc1) (hcv:=?hc2) (hnd:=?hc3) (hnd2:=?hc4) (h:=?h) (hco:=?hco) (hgen:=?hgen) (hk:=?hk)
  case ho=>rw [hK]; exact lookup_KK rfl rfl
  case hcd=>wtm_at "r_k"
  case hb=>exact fun s X=>kp_binds (K:=KK w.params) (hK ▸ X) fun S=>by kernel_rfl
  case hloc=>kernel_rfl
  case hm=>exact rfl
  case hco=>rfl
  case hgen=>rfl
  case hk=>rfl
  case hc1=>exact fun L=>rfl
  case hc2=>exact fun L=>rfl
  case hc3=>decide
  case hc4=>exact fun L=>rfl
  intro L
  show T prog w C (A.deeper (startEnv L)) _ (execs _ (startEnv L)) _ _
  have hmap:((tg::N).map nm).Nodup:=List.pairwise_map.mpr (List.Pairwise.imp_of_mem (fun ha hb h e=>h (nm_inj (hok _ ha) (hok _ hb) e)) hnd)
  obtain ⟨hn1,hn2⟩:=List.nodup_cons.mp hmap
  unfold QA.led rest1
  dsimp only [List.cons_append,List.nil_append]
  wtm_at "t_run"
  refine T_SetStarN (by wtm_at "r_k") rfl (fun S=>?_) R.hand
  wtm_at "t_run"
  refine ⟨_,_,_,rfl,.head,?_⟩
  wtm_at "t_run"
  refine' ⟨ad,kvN N,_,rfl,List.Perm.cons _ (List.perm_middle (l₁:=[_,_,_,_,_,_,_,_,_,_,_,_,_,_,_])),?z1,?z2,?z3⟩
  case z1=>rw [kvN_keys]; exact hn1
  case z2=>unfold kvN; rw [List.length_map]; wtm_at "om"
  rw [kvN_keys]
  dsimp only [List.cons_append,List.nil_append]
  wtm_at "t_run"
  refine T_getBnd (by wtm_at "r_mem") (by wtm_at "r_mem") (mb_qname hK) (by kernel_rfl) (fun q=>?_)
  wtm_at "t_run"
  wtm_at "t_dc"
  refine T_sortedLamN (q:=lam01) (c:=174) (kf:=kf) hL R.hand (Rm.room (R.down.deeper _)) (Rm.line (R.down.deeper _)) rfl rfl rfl rfl rfl rfl (hd174 hK) (fun _ _ _ _=>rfl) rfl ?_
  wtm_at "t_run"
  refine ⟨rfl,?_⟩
  wtm_at "t_run"
  refine ⟨S,nm tg::N.map nm,rfl,by wtm_at "r_mem", by rw [List.length_cons,List.length_map]; wtm_at "om", List.nodup_cons.mpr ⟨hn1,hn2⟩,?_,?_,?_⟩
  · intro y hy z hz e
    obtain ⟨a,ha,rfl⟩:=List.mem_map.mp (List.map_cons (f:=nm) (a:=tg) (l:=N) ▸ hy)
    obtain ⟨b,hb,rfl⟩:=List.mem_map.mp (List.map_cons (f:=nm) (a:=tg) (l:=N) ▸ hz)
    rw [kf_inj (hok a ha) (hok b hb) e]
  · intro y hy C' hC' ρ₂ L₂ f cv
    obtain ⟨a,ha,rfl⟩:=List.mem_map.mp (List.map_cons (f:=nm) (a:=tg) (l:=N) ▸ hy)
    have hl:=nm_len (hok a ha)
    dsimp only [List.cons_append]
    wtm_at "t_go"
    refine T_splitM rfl rfl (by wtm_at "om") fun D=>?_
    refine ⟨D,rfl,?_⟩
    rw [(hok a ha).hk,kf_nm (hok a ha)]
    exact .cons_cons _ (.cons _ (List.Sublist.refl _))
  intro D zs hzs hso
  obtain ⟨ys,hys,rfl⟩:=perm_of_map (l:=tg::N) hzs
  have hyok:∀ r∈ys,NmOk r:=fun r hr=>hok r (hys.mem_iff.mp hr)
  have hso':ys.Pairwise (fun a b=>lex bef bef a b = true):=by
    refine List.Pairwise.imp_of_mem ?_ (List.pairwise_map.mp hso)
    exact fun ha hb h=>lex_kf (hyok _ ha) (hyok _ hb) h
  refine T_iterL (.head _) fun it=>?_
  refine' CompT.perm (σ':=(it,itr D 0)::?sx0::?sx1::?sx2::?sx3::?sx4::?sx5::?sx6::?sx7::?sx8::?sx9::?sx10::?sx11::?sx12::(QA.led prog w p [] [] [] ++ ρ)) ?_ (List.Perm.cons _ (perm13 (l:=QA.led prog w p [] [] [])))
  refine CompT.absL [_,_,_,_,_,_,_,_,_,_,_,_,_] fun X hX=>?_
  have hm1:(D,PO.lst (txts (ys.map nm)))∈X:=hX ▸ .head _
  have hm2:(q,bndM 139 p.x)∈X:=hX ▸ .tail _ (.head _)
  have hm3:(L + 1 + 1,PO.cel (some (.ref q)))∈X:=hX ▸ .tail _ (.tail _ (.tail _ (.tail _ (.tail _ (.tail _ (.head _))))))
  refine opq3 (fun r ac τ=>Ex5 fun k us vs tl tps=>Al5 (r = txts ((ys.drop k).map nm)) (us = firsts (ys.take k)) (prs tl vs (nsP us)) (Parsed us tps ac (ys.take k)) (τ = X ++ (tps ++ (QA.led prog w p us vs tl ++ ρ)))) fun J hJ hJ'=>?_
  refine T_DCB (itsL (l:=D) (xs:=txts (ys.map nm)) R.hand) (need:=fun τ=>(D,PO.lst (txts (ys.map nm)))∈τ) J ?t0 ?tn ?tz rfl rfl (by decide) ?tt ?tf
  case t0=>exact hJ _ _ _ ⟨0,[],[],[],[],rfl,rfl,.nil,⟨rfl,fun _ h=>(nomatch h)⟩,rfl⟩
  case tn=>rintro r ac τ hh; obtain ⟨k,us,vs,tl,tps,_,_,_,_,rfl⟩:=hJ' _ _ _ hh; clear hh; exact List.mem_append_left _ hm1
  case tz =>
    rintro r ac τ hh
    obtain ⟨k,us,vs,tl,tps,_,_,_,h,rfl⟩:=hJ' _ _ _ hh; clear hh
    have:=congrArg List.length h.keys
    rw [List.length_map,List.length_map,List.length_take] at this
    have:=hys.length_eq
    rw [List.length_cons] at this
    wtm_at "om"
  case tt =>
    rintro D' L' pv r ac τ i m hh
    obtain ⟨k,us,vs,tl,tps,hr,rfl,hprs,hpar,rfl⟩:=hJ' _ _ _ hh; clear hh
    have hlt:k < ys.length:=by
      apply Classical.byContradiction
      intro hge
      rw [List.drop_eq_nil_iff.mpr (by wtm_at "om")] at hr
      cases hr
    rw [List.drop_eq_getElem_cons hlt] at hr
    injection hr with hr1 hr2
    have hr1:pv = .str (nm ys[k]) 0:=hr1
    subst hr1
    have htk:ys.take (k + 1) = ys.take k ++ [ys[k]]:=List.take_succ_eq_append_getElem hlt
    generalize hg:ys[k] = g at *
    have hgo:NmOk g:=hg ▸ hyok _ (List.getElem_mem hlt)
    have hgl:=nm_len hgo
    have hl1:=hgo.l1
    have hl2:=hgo.l2
    wtm_at "t_go"
    refine' T_callBM ?b1 ?b2 ?b3 ?_
    case b1=>wtm_at "r_mem"
    case b2=>rw [hK]; exact lookup_KK rfl rfl
    case b3=>rfl
    wtm_at "t_go"
    refine ⟨by wtm_at "r_mem", ?_⟩
    dsimp only [List.cons_append,List.nil_append,List.map_cons,List.map_nil,er]
    refine T_bm (by wtm_at "r_mem") ?_
    have hfrom:=firsts_from (ys.take k)
    have hus:∀ u∈firsts (ys.take k),u∈(tg::N).map (·.1):=fun u hu=>by
      obtain ⟨b,hb,rfl⟩:=List.mem_map.mp ((hfrom.2 u).mp hu)
      exact List.mem_map_of_mem (hys.mem_iff.mp (List.mem_of_mem_take hb))
    have hul:=hA _ hfrom.1 hus
    have hnm:nm g ∉ (ys.take k).map nm:=by
      have hnd2:(ys.map nm).Nodup:=hzs.nodup_iff.mpr (by rw [← List.map_cons (f:=nm)]; exact hmap)
      have : ((ys.take (k + 1)).map nm).Nodup:=hnd2.sublist ((List.take_sublist _ _).map nm)
      rw [htk,List.map_append,List.nodup_append] at this
      exact fun hm=>this.2.2 _ hm _ (.head _) rfl
    refine TC.out (R':=fun r σ'=>Ex3 fun T vs' tl'=>Al3 (r = .ok (.ret (.ref T))) (prs tl' vs' (nsP (nsAdd (firsts (ys.take k)) g.1))) (σ' = (T,PO.tup (qT (nsAdd (firsts (ys.take k)) g.1) g.1 g.2))::(p.led prog w (nsAdd (firsts (ys.take k)) g.1) vs' tl' ++ ([_,_,_] ++ X ++ (tps ++ ρ)))))
      (TC.perm (TC_qn (p:=p) (q:=nm g) (u:=g.1) (tag:=g.2) hK ((R.down.down.deeper _).le (by wtm_at "om")) hprs (by wtm_at "om") hfrom.1 hgo.hq1 hgo.hq2 hgo.hx (by wtm_at "om") (by wtm_at "om") (by wtm_at "om") fun T vs' tl' _ h'=>⟨T,vs',tl',rfl,h',rfl⟩) (permQ (X:=[_,_,_] ++ X))) ?_
    rintro r₁ σ' ⟨T,vs',tl',rfl,hprs',rfl⟩
    refine ⟨_,⟨nm g,_,_,rfl,hJ _ _ _ ⟨k + 1,_,vs',tl',(T,_)::tps,?_,?_,hprs',?_,rfl⟩,List.Sublist.refl _⟩,fun s S=>S.perm permR⟩
    · exact hr2
    · rw [htk,firsts_add]
    · rw [htk]
      exact hpar.add (fun r hr=>(hfrom.2 _).mpr (List.mem_map_of_mem hr)) hnm
  case tf =>
    rintro ac τ hh
    obtain ⟨k,us,vs,tl,tps,hr,hus,hprs,hpar,rfl⟩:=hJ' _ _ _ hh; clear hh
    clear hJ hJ'
    subst hX
    clear hm1 hm2 hm3
    have hk:ys.length≤k:=by
      cases hd:ys.drop k with
      | nil=>exact List.drop_eq_nil_iff.mp hd
      | cons x r=>rw [hd] at hr; cases hr
    rw [List.take_of_length_le hk] at hus hpar
    intro L' D' m'
    refine T.perm ?_ (List.Perm.append_left [_,_,_,_,_,_,_,_,_,_,_,_,_,_,_] (permS (F:=p.led prog w us vs []) (tl:=tl) (r:=ρ) (tp:=tps)))
    unfold QA.led
    dsimp only [List.cons_append,List.nil_append]
    have hprs1:prs (tl ++ (tps ++ ρ)) vs (nsP us):=hprs.mono fun _ h=>List.mem_append_left _ h
    have hpar1:Parsed us (tl ++ (tps ++ ρ)) ac ys:=⟨hpar.keys,fun p hp=>let ⟨T,h1,h2⟩:=hpar.val p hp; ⟨T,h1,List.mem_append_right _ (List.mem_append_left _ h2)⟩⟩
    have hρ1:ρ.Sublist (tl ++ (tps ++ ρ)):=(List.sublist_append_right _ _).trans (List.sublist_append_right _ _)
    have hfrom:=firsts_from ys
    rw [← hus] at hfrom
    have hul:=hA _ hfrom.1 fun u hu=>by
      obtain ⟨b,hb,rfl⟩:=List.mem_map.mp ((hfrom.2 u).mp hu)
      exact List.mem_map_of_mem (hys.mem_iff.mp hb)
    clear hr hk hprs hpar
    revert hprs1 hpar1 hρ1
    generalize tl ++ (tps ++ ρ) = τ₁
    intro hprs1 hpar1 hρ1
    clear tl tps
    wtm_at "t_go"
    refine ⟨_,_,.cons_cons _ (List.Sublist.refl _),?_⟩
    wtm_at "t_go"
    have hne:us ≠ []:=fun e=>by
      have:=(hfrom.2 tg.1).mpr (List.mem_map_of_mem (hys.mem_iff.mpr (.head _)))
      rw [e] at this
      cases this
    have hvl:vs.length = us.length:=by rw [hprs1.len,nsP,List.length_mapIdx]
    refine T_trL (by wtm_at "r_mem") (by wtm_at "om") ?_
    refine ifT (by cases vs with | nil=>exact absurd (List.length_eq_zero_iff.mp (hvl.symm.trans rfl)) hne | cons _ _=>rfl) ?_
    wtm_at "t_run"
    refine' T.drop (σ':=?sy0::?sy1::?sy2::?sy3::?sy4::?sy5::?sy6::?sy7::?sy8::?sy9::?sy10::?sy11::?sy12::?sy13::?sy14::?sy15::τ₁) ?_ (List.Sublist.cons_cons _ (List.Sublist.cons _ (List.Sublist.cons _ (List.Sublist.cons _ (List.Sublist.cons _ (List.Sublist.cons_cons _ (List.Sublist.cons_cons _ (List.Sublist.cons _ (List.Sublist.cons_cons _ (List.Sublist.cons_cons _ (List.Sublist.cons_cons _ (List.Sublist.cons_cons _ (List.Sublist.cons_cons _ (List.Sublist.cons_cons _ (List.Sublist.cons_cons _ (List.Sublist.cons_cons _ (List.Sublist.cons_cons _ (List.Sublist.cons_cons _ (List.Sublist.cons_cons _ (List.Sublist.cons_cons _ (List.Sublist.cons_cons _ (List.Sublist.refl _))))))))))))))))))))))
    wtm_at "t_lcg"
    wtm_at "t_run"
    refine T_iterL (by wtm_at "r_mem") fun it2=>?_
    refine CompT.absL [_,_,_,_,_,_,_,_,_,_,_,_,_,_,_,_] fun X hX=>?_
    have hmn:(p.nn,PO.lst vs)∈X:=by rw [← hX]; wtm_at "r_mem"
    refine opq3 (fun r zs τ=>Ex2 fun k tx=>Al3 (r = (nsP us).drop k) (prs (tx ++ τ₁) zs (((nsP us).take k).map fun q=>(.str (Str.ofString "xmlns:" ++ txt q.2) 0,q.1))) (τ = X ++ (tx ++ τ₁))) fun J hJ hJ'=>?_
    refine' T_compP (po:=fun i=>[(it2,itr p.nn i)]) (drwL (l:=p.nn) (vs:=vs) (xs:=nsP us) R.hand) R.hand J ?u0 ?un ?uz ?v1 ?v2 ?v3 ?v4 ?ut ?uf (fun q τ h=>⟨.tail _ h.1,h.2.mono fun _=>.tail _⟩)
    case v1=>rfl
    case v2=>rfl
    case v3=>rfl
    case v4=>decide
    case u0=>exact hJ _ _ _ ⟨0,[],rfl,.nil,rfl⟩
    case un =>
      rintro r zs τ hh
      obtain ⟨k,tx,_,_,rfl⟩:=hJ' _ _ _ hh; clear hh
      exact ⟨List.mem_append_left _ hmn,hprs1.mono fun x h=>List.mem_append_right _ (List.mem_append_right _ h)⟩
    case uz =>
      rintro r zs τ hh
      obtain ⟨k,tx,_,h,_⟩:=hJ' _ _ _ hh; clear hh
      have:=h.len
      rw [List.length_map,List.length_take,nsP,List.length_mapIdx] at this
      wtm_at "om"
    case ut =>
      rintro D2 L2 pq r zs τ i m hh
      obtain ⟨k,tx,hr,hx,rfl⟩:=hJ' _ _ _ hh; clear hh
      obtain ⟨hlt,rfl,rfl,htk⟩:=nsP_drop hr
      have hpl:=pre_len k (by wtm_at "om")
      dsimp only [List.cons_append,List.nil_append,er]
      refine T_t0 ?_
      refine T.wk ?_
      refine T.opq fun Q1 hQ1=>?_
      wtm_at "t_run"
      refine T_trS (by wtm_at "om") ?_
      refine ifT (by simp [hpl.2]) ?_
      wtm_at "t_run"
      refine T_addS (by show 6 + _≤_; wtm_at "om") fun _=>?_
      wtm_at "t_run"
      refine hQ1 _ _ ⟨_,fun s S=>S.perm (List.perm_middle (l₁:=[_,_,_] ++ X)).symm,_,hJ _ _ _ ⟨k + 1,(_,_)::tx,rfl,?_,rfl⟩,List.Sublist.refl _⟩
      rw [htk,List.map_append]
      exact (hx.mono fun _ h=>.tail _ h).app (.cons (.head _) .nil)
    case uf =>
      rintro zs τ hh
      obtain ⟨k,tx,hr,hx,rfl⟩:=hJ' _ _ _ hh; clear hh
      clear hJ hJ'
      subst hX
      clear hmn
      have hk:us.length≤k:=by
        have:=List.drop_eq_nil_iff.mp hr.symm
        rw [nsP,List.length_mapIdx] at this
        exact this
      rw [List.take_of_length_le (by rw [nsP,List.length_mapIdx]; exact hk)] at hx
      intro L2 D2 m2
      wtm_at "t_run"
      refine ⟨_,_,.cons_cons _ (List.Sublist.refl _),?_⟩
      wtm_at "t_run"
      refine T_gmSort (by wtm_at "r_mem") ?_
      wtm_at "t_run"
      have hxl:(xm us).length = us.length:=by unfold xm; rw [List.length_mapIdx]
      rw [xm_at] at hx
      refine T_lsortP' (ps:=xm us) (τ₀:=tx ++ τ₁) (kin_s xm_mem) (sorted_nodup (lex_ord at_ord at_ord) (xm_sorted (by wtm_at "om"))) (fun e=>hne (by rw [e] at hxl; exact List.length_eq_zero_iff.mp hxl.symm)) (by wtm_at "om") hx (fun x h=>List.mem_append_right [_,_,_,_,_,_,_,_,_,_,_,_,_,_,_,_] h) fun zs' qs hq1 hq2 hq3=>?_
      rw [sorted_unique (lex_ord at_ord at_ord) hq2 (xm_sorted (by wtm_at "om")) hq1] at hq3
      clear hq1 hq2 hx hr
      wtm_at "t_run"
      refine T_trD (by wtm_at "r_mem") (by unfold kvN; rw [List.length_map]; wtm_at "om") ?_
      refine ifT (by unfold kvN; cases N with | nil=>exact absurd rfl hN | cons _ _=>rfl) ?_
      wtm_at "t_run"
      refine T_gmItems (by wtm_at "r_mem") ?_
      wtm_at "t_run"
      refine T_items (by wtm_at "r_mem") fun V=>?_
      wtm_at "t_run"
      refine T_sortedV (ps:=N.map sq) (by wtm_at "r_mem") (by wtm_at "r_mem") (sq_at N) R.hand (kin_s sq_mem) (sq_nodup hn2) (fun e=>hN (List.map_eq_nil_iff.mp e)) (by rw [List.length_map]; wtm_at "om") fun D3 new vs3 qs hq1 hq2 hp3=>?_
      obtain ⟨rs,hrs,rfl⟩:=perm_of_map hq1
      have hrok:∀ r∈rs,NmOk r:=fun r hr=>hok r (.tail _ (hrs.mem_iff.mp hr))
      have hrys:∀ r∈rs,r∈ys:=fun r hr=>hys.mem_iff.mpr (.tail _ (hrs.mem_iff.mp hr))
      have hrl:rs.length = N.length:=hrs.length_eq
      have hrso:rs.Pairwise fun a b=>bef (nm a) (nm b) = true:=by
        have hnd3:(rs.map nm).Nodup:=(hrs.map nm).nodup_iff.mpr hn2
        exact List.Pairwise.imp₂ (fun a b h1 h2=>sq_bef h2 h1) (List.pairwise_map.mp hq2) (List.pairwise_map.mp hnd3)
      refine T.perm ?_ (List.Perm.cons _ (List.perm_append_comm_assoc new [_,_,_,_,_,_,_,_,_,_,_,_,_,_,_,_,_,_] (tx ++ τ₁)))
      dsimp only [List.cons_append,List.nil_append]
      refine' T.drop (σ':=(D3,PO.lst vs3)::(D2,.lst zs')::?sz1::?sz2::(L,.ns ?szL)::?sz3::?sz4::?sz5::?sz6::?sz7::?sz8::?sz9::?sz10::?sz11::?sz12::?sz13::?sz14::?sz15::(new ++ (tx ++ τ₁))) ?_ (List.Sublist.cons_cons _ (List.Sublist.cons _ (List.Sublist.refl _)))
      have hx3:prs (new ++ (tx ++ τ₁)) zs' ((xm us).map atp):=hq3.mono fun _ h=>List.mem_append_right _ h
      have hp3':prs (new ++ (tx ++ τ₁)) vs3 ((rs.map sq).map atp):=hp3.mono fun _ h=>List.mem_append_left _ h
      have hprs2:prs (new ++ (tx ++ τ₁)) vs (nsP us):=hprs1.mono fun _ h=>List.mem_append_right _ (List.mem_append_right _ h)
      have hpar2:Parsed us (new ++ (tx ++ τ₁)) ac ys:=⟨hpar1.keys,fun p hp=>let ⟨T,h1,h2⟩:=hpar1.val p hp; ⟨T,h1,List.mem_append_right _ (List.mem_append_right _ h2)⟩⟩
      have hρ2:ρ.Sublist (new ++ (tx ++ τ₁)):=(hρ1.trans (List.sublist_append_right _ _)).trans (List.sublist_append_right _ _)
      have hrs0:=hrs
      clear hq1 hq2 hq3 hp3 hprs1 hpar1 hρ1 hrs
      revert hx3 hp3' hprs2 hpar2 hρ2
      generalize new ++ (tx ++ τ₁) = τ₂
      intro hx3 hp3 hprs2 hpar2 hρ2
      clear new tx τ₁
      refine T_iterL (.head _) fun it3=>?_
      refine TC.absL [_,_,_,_,_,_] [_,_,_,_,_,_,_,_,_,_,_,_,_] fun X hX=>?_
      refine opq2 (fun r τ=>Ex4 fun m k tx zz=>Al9 (m.lookup (Str.ofString "attr_list") = some (.ref D2)) (m.lookup (Str.ofString "parsed_qnames") = some (.ref D')) (m.lookup (Str.ofString "qattrs") = some .none) (m.lookup (Str.ofString "attrs") = some (.ref ad)) (m.lookup (Str.ofString "tag") = some (.str (nm tg) 0)) (m.lookup (Str.ofString "qname_text") = some .none) (r = (rs.drop k).map (fun a=>atp (sq a))) (prs (tx ++ τ₂) zz ((xm us ++ (rs.take k).map (rowA us)).map atp)) (τ = (D3,PO.lst vs3)::(D2,.lst zz)::(D',dcp prog w ac)::(ad,dcp prog w (kvN N))::(L,.ns m)::(X ++ (tx ++ τ₂)))) fun J hJ hJ'=>?_
      refine' T_forP (po:=fun i=>[(it3,itr D3 i)]) (drwL (l:=D3) (vs:=vs3) (xs:=(rs.map sq).map atp) R.hand) R.hand ?f1 ?f2 ?f3 J ?w0 ?wn ?wt ?wf
      case f1=>rfl
      case f2=>rfl
      case f3=>rfl
      case w0=>exact hJ _ _ ⟨_,0,[],zs',rfl,rfl,rfl,rfl,rfl,rfl,by rw [List.map_map]; rfl,by rw [List.take_zero,List.map_nil,List.append_nil]; exact hx3,rfl⟩
      case wn =>
        rintro r τ hh
        obtain ⟨m,k,tx,zz,_,_,_,_,_,_,_,_,rfl⟩:=hJ' _ _ hh; clear hh
        exact ⟨by wtm_at "r_mem", hp3.mono fun x h=>List.mem_append_right [_,_,_,_,_] (List.mem_append_right X (List.mem_append_right tx h))⟩
      case wt =>
        rintro pq r τ i hh
        obtain ⟨m,k,tx,zz,l1,l2,l3,l4,l5,l6,hr,hx,rfl⟩:=hJ' _ _ hh; clear hh
        obtain ⟨hlt,rfl,rfl,htk⟩:=drop_at hr
        refine ⟨m,_,by wtm_at "r_ur", ?_⟩
        refine T.opq fun Q2 hQ2=>?_
        dsimp only [List.cons_append,List.nil_append,atp,sq,At.v,er]
        have hgm:rs[k]∈rs:=List.getElem_mem hlt
        generalize rs[k] = g at *
        have hgo:=hrok g hgm
        have hg1:=hgo.l1
        have hg2:=hgo.l2
        obtain ⟨Tg,hv,hT⟩:=hpar2.val g (hrys g hgm)
        have hui:us.idxOf g.1 < 30:=by
          have:=List.idxOf_lt_length_of_mem ((hfrom.2 g.1).mpr (List.mem_map_of_mem (hrys g hgm)))
          wtm_at "om"
        have hpl:=pre_len _ hui
        wtm_at "t_run"
        refine T_AssignS ?_ (by exact rfl) (by exact rfl)
        wtm_at "t_run"
        refine T_itemD (by wtm_at "r_mem") (pv:=.ref Tg) hv ?_
        wtm_at "t_vs"
        refine T_assignAll1 ?_
        refine T_assignUT R.hand (List.mem_append_right [_,_,_,_,_,_] (List.mem_append_right X (List.mem_append_right tx hT))) rfl rfl rfl ?_
        intro t1
        wtm_at "t_run"
        intro t2
        wtm_at "t_run"
        intro t3
        wtm_at "t_run"
        refine UA_nil ?_
        refine T.drop (σ':=(it3,itr D3 i)::(D3,.lst vs3)::(D2,.lst zz)::?sz1::?sz2::(L,.ns ((Str.ofString "uri", .str g.1 0)::(Str.ofString "attr_name", .str g.2 0)::(Str.ofString "attr_qname", .str (rowS us g) 0)::(Str.ofString "v", .str g.1 0)::(Str.ofString "k", .str (nm g) 0)::m))::_) ?_ (List.Sublist.refl _)
        wtm_at "t_run"
        refine T_trS (by wtm_at "om") ?_
        refine ifT (by simp [hgo.ne]) ?_
        wtm_at "t_run"
        refine T.perm ?_ (List.perm_middle (l₁:=[_,_,_,_,_,_] ++ X)).symm
        have hzz:zz.length≤1000:=by
          have:=hx.len
          rw [List.length_map,List.length_append,List.length_map,List.length_take] at this
          wtm_at "om"
        refine T_append (by wtm_at "r_ur") (by wtm_at "om") ?_
        wtm_at "t_run"
        refine hQ2 _ _ ⟨_,hJ _ _ ⟨(Str.ofString "uri", .str g.1 0)::(Str.ofString "attr_name", .str g.2 0)::(Str.ofString "attr_qname", .str (rowS us g) 0)::(Str.ofString "v", .str g.1 0)::(Str.ofString "k", .str (nm g) 0)::m,k + 1,(_,_)::tx,zz ++ [_],l1,l2,l3,l4,l5,l6,rfl,?_,rfl⟩,List.Sublist.refl _⟩
        rw [htk,List.map_append (f:=rowA us),← List.append_assoc,List.map_append (f:=atp)]
        exact (hx.mono fun _ h=>.tail _ h).app (.cons (.head _) .nil)
      case wf =>
        rintro τ hh
        obtain ⟨m,k,tx,zz,l1,l2,l3,l4,l5,l6,hr,hx,rfl⟩:=hJ' _ _ hh; clear hh
        clear hJ hJ'
        subst hX
        have hk:rs.length≤k:=by
          cases hd:rs.drop k with
          | nil=>exact List.drop_eq_nil_iff.mp hd
          | cons x r=>rw [hd] at hr; cases hr
        rw [List.take_of_length_le hk] at hx
        clear hr hk hp3 hx3
        dsimp only
        refine T.drop ?_ (List.Sublist.cons _ (List.Sublist.refl _))
        refine T_nil ?_
        dsimp only
        refine T_startTail (τ:=tx ++ τ₂) (all:=xm us ++ rs.map (rowA us)) hK R hs (fun r hr=>hok r (.tail _ hr)) (hok tg (.head _)) (hys.mem_iff.mpr (.head _)) hul ((hfrom.2 _).mpr (List.mem_map_of_mem (hys.mem_iff.mpr (.head _)))) ⟨hpar2.keys,fun p hp=>let ⟨T,h1,h2⟩:=hpar2.val p hp; ⟨T,h1,List.mem_append_right _ h2⟩⟩ hx
          (fun e=>hne (List.length_eq_zero_iff.mp (by rw [← hxl,(List.append_eq_nil_iff.mp e).1]; rfl))) (by rw [List.length_append,List.length_map]; wtm_at "om") (fun a ha=>?_) l1 l2 l4 l5 l6 fun n2=>?_
        · rcases List.mem_append.mp ha with ha | ha
          · refine xm_ok (by wtm_at "om") (fun u hu=>?_) a ha
            obtain ⟨b,hb,rfl⟩:=List.mem_map.mp ((hfrom.2 u).mp hu)
            exact ⟨(hyok b hb).l1,(hyok b hb).es⟩
          · obtain ⟨b,hb,rfl⟩:=List.mem_map.mp ha
            exact row_ok (by wtm_at "om") (hrok b hb) ((hfrom.2 _).mpr (List.mem_map_of_mem (hrys b hb)))
        · subst hus
          exact h ys rs vs (tx ++ τ₂) n2 hys hso' hrs0 hrso (hρ2.trans (List.sublist_append_right _ _)) (hprs2.mono fun _ h=>List.mem_append_right _ h)
end
section
variable {prog:Program} {w:World} {C:Cx} {A:Around} {σ σ' ρ τ:Led} {E:Value→Led→Prop} {env:Env} {s:Shared} {p:QA} {q tag u:Str} {t:Tok} {us ws:List Str} {vs:List Value} {tl:Led} {wl n1 n2 ad:Addr} {N:List (Str × Str)} {tg:Str × Str}
noncomputable def qa (x d wa da de dl tt nn ns pm ps:Addr):QA:={ x,d,wa,da,de,dl,tt,nn,ns,pm,ps,seen:=false,dn:=false }
theorem T_start1 {x d wa da de dl tt ns pm ps:Addr} {Q:Value→Led→Prop} (hK:C.K = KK w.params) (hL:lam01∈C.lams) (R:Rm 14 A) (hok:∀ r∈tg::N,NmOk r) (hnd:(tg::N).Nodup) (hz:N.length≤40) (hN:N ≠ []) (hA:∀ l:List Str,l.Nodup→(∀ u∈l,u∈(tg::N).map (·.1))→l.length≤9)
    (h:∀ nn (ys rs:List (Str × Str)) vs τ n2,ys.Perm (tg::N)→ys.Pairwise (fun a b=>lex bef bef a b = true)→rs.Perm N→rs.Pairwise (fun a b=>bef (nm a) (nm b) = true)→ρ.Sublist τ→prs τ vs (nsP (firsts ys)) →
      Q .none ((ad,dcp prog w (kvN N))::(wa,.raw (bndO "list.append" (.ref wl)))::(wl,.lst (txts [Str.ofString "<" ++ rowS (firsts ys) tg,Builtin.Str.glued (Str.ofString "") ((xm (firsts ys) ++ rs.map (rowA (firsts ys))).map attS),Str.ofString ">"]))::(da,.lst [])::(ns,.lst [.ref n1,.ref n2])::(ps,.lst [.bool false,.bool false]) ::
        QA.led prog w { qa x d wa da de dl tt nn ns pm ps with seen:=true } (firsts ys) vs τ)) :
    T prog w C A ((x,.ins 199 d)::(d,.idc (wrF1 wa da de ns pm ps false false))::(de,.lst [.ref dl])::(dl,.lst [.ref tt])::(tt,.tup [.str xmlU 0,.str xmlP 0])::(pm,dcp prog w [])::(wa,.raw (bndO "list.append" (.ref wl)))::(wl,.lst (txts []))::(da,.lst [])::(ns,.lst [.ref n1])::(ps,.lst [.bool false])::(ad,dcp prog w (kvN N))::ρ)
      (call (.ref 169) [.ref x,.str (nm tg) t,.ref ad]) Q E:=by
  refine' T_callF (m:=[(Str.ofString "attrs", .ref ad),(Str.ofString "tag", .str (nm tg) 0),(Str.ofString "self", .ref x)]) [(Str.ofString "self", .ref x),(Str.ofString "tag", .str (nm tg) t),(Str.ofString "attrs", .ref ad)] R.room (ho:=?ho) (hcd:=?hcd) (hbind:=?hb) (hloc:=?hloc) (hm:=?hm) (h:=?h) (hco:=?hco) (hgen:=?hgen) (hk:=?hk) (hcell:=?hcell)
  case ho=>rw [hK]; exact lookup_KK rfl rfl
  case hcd=>wtm_at "r_k"
  case hb=>exact fun s X=>kp_binds (K:=KK w.params) (hK ▸ X) fun S=>by kernel_rfl
  case hloc=>kernel_rfl
  case hm=>exact rfl
  case hco=>rfl
  case hgen=>rfl
  case hk=>rfl
  case hcell=>decide
  intro L
  unfold wrF1
  wtm_at "t_run"
  rename_i nn _
  dsimp only [List.cons_append,List.nil_append,List.map_nil]
  refine T.perm ?_ ((List.Perm.swap _ _ _).trans ((List.Perm.cons _ (List.perm_middle (l₁:=[_,_,_,_,_])).symm).trans (List.perm_middle (l₁:=[_,_,_,_,_,_,_,_,_,_,_,_,_])).symm))
  refine T__start1 (p:=qa x d wa da de dl tt nn ns pm ps) (ρ:=(L,.ns _)::ρ) hK hL ((R.down.deeper _).le (by wtm_at "om")) rfl hok hnd hz hN hA fun ys rs vs τ n2 h1 h2 h3 h4 h5 h6=>?_
  wtm_at "t_run"
  exact ⟨_,List.Sublist.refl _,h nn ys rs vs τ n2 h1 h2 h3 h4 ((List.sublist_cons_self _ _).trans h5) h6⟩
theorem T_end1 {Q:Value→Led→Prop} (hK:C.K = KK w.params) (R:Rm 14 A) (hg:NmOk tg) (hu:tg.1∈us) (hz:us.length≤9) (hnd:us.Nodup) (hp:prs τ vs (nsP us)) (hws:ws.length≤100)
    (h:Q .none ((ad,dcp prog w (kvN N))::(wl,.lst (txts (ws ++ [Str.ofString "</" ++ rowS us tg ++ Str.ofString ">"])))::τ)) :
    T prog w C A ((ad,dcp prog w (kvN N))::(p.wa,.raw (bndO "list.append" (.ref wl)))::(wl,.lst (txts ws))::(p.da,.lst [])::(p.ns,.lst [.ref n1,.ref n2])::(p.ps,.lst [.bool false,.bool false])::QA.led prog w p us vs τ)
      (call (.ref 182) [.ref p.x,.str (nm tg) t]) Q E:=by
  refine' T_callF (m:=[(Str.ofString "tag", .str (nm tg) 0),(Str.ofString "self", .ref p.x)]) [(Str.ofString "self", .ref p.x),(Str.ofString "tag", .str (nm tg) t)] R.room (ho:=?ho) (hcd:=?hcd) (hbind:=?hb) (hloc:=?hloc) (hm:=?hm) (h:=?h) (hco:=?hco) (hgen:=?hgen) (hk:=?hk) (hcell:=?hcell)
  case ho=>rw [hK]; exact lookup_KK rfl rfl
  case hcd=>wtm_at "r_k"
  case hb=>exact fun s X=>kp_binds (K:=KK w.params) (hK ▸ X) fun S=>by kernel_rfl
  case hloc=>kernel_rfl
  case hm=>exact rfl
  case hco=>rfl
  case hgen=>rfl
  case hk=>rfl
  case hcell=>decide
  intro L
  have hgl:=nm_len hg
  have hg1:=hg.l1
  have hg2:=hg.l2
  have hpl:=pre_len (us.idxOf tg.1) (by have:=List.idxOf_lt_length_of_mem hu; wtm_at "om")
  have hql:(rowS us tg).length≤40:=by unfold rowS; rw [Str.length_append,Str.length_append]; show _ + 1 + _≤_; wtm_at "om"
  unfold QA.led
  wtm_at "t_run"
  refine T_FStr (T_jpC0 (Nat.le_of_ble_eq_true rfl) ?_)
  refine T_jp1 (T_fv ?_)
  wtm_at "t_run"
  refine T_callTC ?_
  refine TC.perm (TC_qn (p:=p) (q:=nm tg) (u:=tg.1) (tag:=tg.2) (tl:=τ) (ρ:=[_,_,_,_,_,_,_]) hK ((R.down.down.deeper _).le (by wtm_at "om")) hp (by wtm_at "om") hnd hg.hq1 hg.hq2 hg.hx (by wtm_at "om") (by wtm_at "om") (by wtm_at "om") fun Tq vs' tl' hs hp'=>?_) (List.perm_append_comm (l₁:=[_,_,_,_,_,_,_]) (l₂:=p.led prog w us vs τ))
  rw [show nsAdd us tg.1 = us from if_pos hu]
  dsimp only
  refine T.perm ?_ (List.Perm.cons _ (List.perm_append_comm (l₂:=[_,_,_,_,_,_,_])))
  unfold QA.led
  dsimp only [List.cons_append,List.nil_append]
  wtm_at "t_run"
  refine T_itemT (by wtm_at "r_mem") (by decide) (by decide) rfl ?_
  dsimp only [Vs,er]
  intro _
  refine T_fvS (by show (rowS us tg).length≤_; wtm_at "om") fun _=>?_
  refine ⟨_,_,rfl,by show 2 + (rowS us tg).length≤_; wtm_at "om", ?_⟩
  have hq2:(Str.ofString "</" ++ rowS us tg).length≤42:=by rw [Str.length_append]; show 2 + _≤_; wtm_at "om"
  refine T_jpCE (by show (Str.ofString "</" ++ rowS us tg).length + 1≤_; wtm_at "om") ?_
  refine T_jp0E (by rw [Str.length_append]; show (Str.ofString "</" ++ rowS us tg).length + 1≤_; wtm_at "om") fun _=>?_
  have hw1:(txts ws).length≤1000000:=by unfold txts; rw [List.length_map]; wtm_at "om"
  wtm_at "t_run"
  refine T_callAppB (by wtm_at "r_mem") (by wtm_at "r_ur") hw1 ?_
  wtm_at "t_run"
  refine T_pop (xs:=[.bool false]) (by wtm_at "r_ur") (by exact Nat.le_of_ble_eq_true rfl) ?_
  wtm_at "t_run"
  wtm_at "t_vs"
  wtm_at "t_run"
  refine T_lenL (by wtm_at "r_mem") (by exact Nat.le_of_ble_eq_true rfl) fun _=>?_
  wtm_at "t_run"
  refine T_pop (xs:=[.ref p.dl]) (by wtm_at "r_ur") (by exact Nat.le_of_ble_eq_true rfl) ?_
  wtm_at "t_run"
  wtm_at "t_vs"
  wtm_at "t_run"
  refine T_pop (xs:=[.ref n1]) (by wtm_at "r_ur") (by exact Nat.le_of_ble_eq_true rfl) ?_
  wtm_at "t_run"
  wtm_at "t_vs"
  wtm_at "t_run"
  refine ⟨_,?_,h⟩
  refine .cons _ (.cons _ (.cons_cons _ (.cons _ (sub_cons (by unfold txts; rw [List.map_append]; rfl) ?_))))
  iterate 10 apply List.Sublist.cons
  exact hs
end
theorem findObj_shadow {K:Frag} {C:Addr} {od:Obj} {name:Str} {a v:Value} {g:Option Value} (hh:hasDictIn K C = true) (ha:findIn K (.ref C) name = some (some a)) (hg:specialIn K a "__get__" = some g) (ht:takesIn K a = some false) (hl:lookIn name od = some (some v)) :
    findObj K C (some od) name = some (.value v):=by
  obtain ⟨cd,hc,hd⟩:=any_some hh
  unfold findObj
  rw [hc,Option.bind_some,ha,Option.bind_some]
  have ho:W.ownOf cd (some od) name = some (some v):=by unfold W.ownOf; rw [if_pos hd]; exact hl
  dsimp only
  rw [hg,Option.bind_some]
  cases g with
  | none =>
    rw [ho]
    rfl
  | some g =>
    show Option.bind (takesIn K a) _ = _
    rw [ht]
    show Option.bind (W.ownOf cd (some od) name) _ = _
    rw [ho]
    rfl
theorem method_shadow {prog:Program} {w:World} {A:Around} {E:Value→Shared→Prop} {s:Shared} {K:Frag} {name:Str} {x C:Addr} {ox:Obj} {o:Obj} {pl:Sem Bool} {Q:Value × List Value→Shared→Prop} {f:Addr} (X:K.In s.heap) (I:InstAt s.heap x ox C (some o)) (hga:findIn K (.ref C) "__getattribute__" = some (some (.builtin "object.__getattribute__"))) (hk:findIn K (.ref C) "__getattr__" = some none)
    (hf:findIn K (.ref C) name = some (some (.ref f))) (ht:typeIn K (.ref f) = some (.type "function")) (hs:shadowIn (some o) name = some true) (h:wpAny (model prog w) A (getAttr (.ref x) name) (fun v=>Q (v,[])) E s) :
    wpAny (model prog w) A (getMethod (.ref x) name pl) Q E s:=by
  have hcan:=PySem.F.canon_object_ga
  have u:wpAny (model prog w) A (do return (← getAttr (.ref x) name,([]:List Value))) Q E s:=wpAny_bind (wpAny_mono h (fun _ _ z=>wpAny_pure z) fun _ _ z=>z)
  unfold getMethod specialOf
  refine wpAny_bind (wpAny_bind (I.type.here ((looks_findIn X hga).here ?_)))
  dsimp only
  rw [hcan,if_neg (by decide)]
  refine wpAny_bind (wpAny_bind (I.type.here ((looks_findIn X hk).here ?_)))
  refine wpAny_bind (wpAny_bind (I.type.here ((looks_findIn X hf).here (wpAny_bind ((looks_typeIn X ht).here ?_)))))
  rw [if_neg (by decide +kernel)]
  refine wpAny_bind (wpAny_loadPart I.at_ ?_)
  have hd:=I.dict
  cases e:ox.dict with
  | none=>rw [e] at hd; cases hd
  | some dx =>
    rw [e] at hd
    obtain ⟨r,a,b⟩:=Option.map_eq_some_iff.mp hs
    refine wpAny_bind (wpAny_bind (wpAny_loadPart hd ?_))
    rw [nsLook_of a]
    refine wpAny_pure ?_
    rw [b]
    exact u
structure ShF (K:Frag) (C:Addr) (name:Str) (f:Addr):Prop where
  g:plainGet K C name = true
  hh:hasDictIn K C = true
  ha:findIn K (.ref C) name = some (some (.ref f))
  ty:typeIn K (.ref f) = some (.type "function")
  gt:(specialIn K (.ref f) "__get__").isSome = true
  tk:takesIn K (.ref f) = some false
  st:findIn K (.ref C) "__setattr__" = some (some (.builtin "object.__setattr__"))
  po:plainOver K C = true
  tn:takerIn K C name = some none
theorem sh_app {K:Frag} {P:Params} (hK:K = KK P):ShF K 76 (Str.ofString "applies_to") 66:=by
  subst hK
  exact ⟨by kernel_rfl,by kernel_rfl,by kernel_rfl,by kernel_rfl,by kernel_rfl,by kernel_rfl,by kernel_rfl,by kernel_rfl,by kernel_rfl⟩
theorem sh_all {K:Frag} {P:Params} (hK:K = KK P):ShF K 76 (Str.ofString "allowance") 73:=by
  subst hK
  exact ⟨by kernel_rfl,by kernel_rfl,by kernel_rfl,by kernel_rfl,by kernel_rfl,by kernel_rfl,by kernel_rfl,by kernel_rfl,by kernel_rfl⟩
section
variable {prog:Program} {w:World} {C:Cx} {A:Around} {σ σ':Led} {E:Value→Led→Prop} {x d Cc f:Addr} {name:Str} {m:List (Str × Value)} {pv:Value}
theorem T_getS {Q:Value→Led→Prop} {expr:Bool} (hm:(x,.ins Cc d)∈σ) (hd:(d,.idc m)∈σ) (hc:ShF C.K Cc name f) (hx:m.lookup name = some pv) (hv:handedIn pv = true) (h:Vs pv (fun v=>Q v σ)):T prog w C A σ (getAttr (.ref x) name expr) Q E:=fun s S=>by
  obtain ⟨od,es,ep,I,ho,e,k,ff,z⟩:=S.inst hm hd
  have q:=ff name
  rw [hx] at q
  obtain ⟨v,hf,he⟩:=Option.map_eq_some_iff.mp q
  have hv':handedIn v = true:=by subst he; cases v <;> first | rfl | exact hv
  obtain ⟨g,hg⟩:=Option.isSome_iff_exists.mp hc.gt
  exact get_value S.kin I (plainGet_of hc.g).1 (findObj_shadow hc.hh hc.ha hg hc.tk (by rw [look_of e k,hf])) hv' ((h.led (S.tok _)).get he)
theorem T_mthS {Q:Value × List Value→Led→Prop} {pl:Sem Bool} (hm:(x,.ins Cc d)∈σ) (hd:(d,.idc m)∈σ) (hc:ShF C.K Cc name f) (hx:m.lookup name = some pv) (hv:handedIn pv = true) (h:Vs pv (fun v=>Q (v,[]) σ)):T prog w C A σ (getMethod (.ref x) name pl) Q E:=fun s S=>by
  obtain ⟨od,es,ep,I,ho,e,k,ff,z⟩:=S.inst hm hd
  have q:=ff name
  rw [hx] at q
  obtain ⟨v,hf,he⟩:=Option.map_eq_some_iff.mp q
  exact method_shadow S.kin I (plainGet_of hc.g).1 (plainGet_of hc.g).2 hc.ha hc.ty (by show (lookIn name od).map _ = _; rw [look_of e k,hf]; rfl) (T_getS hm hd hc hx hv (Q:=fun v σ'=>Q (v,[]) σ') h s S)
theorem T_setS {v:Value} {Q:Unit→Led→Prop} (hm:(x,.ins Cc d)∈σ) (hc:ShF C.K Cc name f) (U:Upd d (.idc m) (.idc ((name,er v)::m)) σ σ') (hz:m.length < 1000) (h:Q () σ'):T prog w C A σ (setAttr (.ref x) name v) Q E:=fun s S =>
  setA S hm U hc.st hc.po hc.tn hc.hh hz fun s' S'=>⟨_,h,S'⟩
end
section
variable {prog:Program} {w:World} {C:Cx} {A:Around} {σ σ' τ:Led} {E:Value→Led→Prop} {env:Env} {s:Shared}
theorem callGS {R:Result→Shared→Prop} {f:Addr} {nm qual:Str} {params:Arguments} {body:List Stmt} {scope:Scope} {dV kV doc pm cdv ct oc:Value} {an od:Option Addr} {osl:Array (Option Value)} {args:List Value} {kw:List (Str × Value)} {m:List (Str × Value)} (binds:List (Str × Value))
    (cells:Addr→List (Str × Addr)) (cv:Addr→Led)
    (hroom:A.depth < recursionLimit) (ho:C.K.lookup f = some ⟨oc,od,.func (fnX nm qual params body scope [] dV kV doc pm an cdv ct),osl⟩) (hcd:codeIn C.K cdv qual = true)
    (hbind:∀ s,C.K.In s.heap→BindsTo s (fnX nm qual params body scope [] dV kV doc pm an cdv ct) ⟨args,kw⟩ binds) (hloc:(binds.all fun y=>scope.names.lookup y.1 == some .local || (scope.names.lookup y.1 == some .cell && ((cellsFrom 0 scope.names []).lookup y.1).isSome)) = true)
    (hm:(binds.filter fun x=>decide (scope.names.lookup x.1 = some .local)).reverse.map (fun y=>(y.1,er y.2)) = m)
    (hcells:∀ L,cellsFrom (L + 1) scope.names [] = cells L)
    (hcv:∀ L,((cells L).map fun p=>(p.2,PO.cel ((((binds.filter fun x=>!decide (scope.names.lookup x.1 = some .local)).reverse.lookup p.1).or none).map er))) = cv L)
    (hnd:((cells 0).map (·.1)).Nodup) (hnd2:∀ L,(cells L).map (·.1) = (cells 0).map (·.1))
    (h:∀ L s',Sat C ((L,.ns m)::cv L ++ σ) s'→wpAny (model prog w) (A.deeper (envX qual scope L f cdv (cells L))) (execs body (envX qual scope L f cdv (cells L))) (fun fl s''=>R (.ok (.ret (retv fl))) s'') (fun _ _=>False) s')
    (hco:scope.isCoroutine = false:=by rfl) (hgen:scope.isGenerator = false:=by rfl) (hk:scope.kind = .function:=by rfl) :
    Sat C σ s→codeAny (model prog w) A (.call (.ref f) ⟨args,kw⟩) R s:=by
  subst hm
  intro S
  refine codeAny_call_function (fd:=fnX nm qual params body scope [] dV kV doc pm an cdv ct) (body:=body) hroom (S.kin _ _ ho) rfl hco hgen rfl (codeRec_of S.kin hcd) ?_
  refine hbind s S.kin _ _ _ _ ?_
  refine wpAny_toks ?_
  refine wpAny_newFunctionEnv_cells hk (fun x hx=>?_) fun env' he s' x htk=>?_
  · have:=List.all_eq_true.mp hloc x hx
    rw [Bool.or_eq_true,Bool.and_eq_true,beq_iff_eq,beq_iff_eq] at this
    rcases this with h | ⟨h1,h2⟩
    · exact .inl h
    · refine .inr ⟨h1,?_⟩
      have key:∀ (names:List (Str × NameKind)) n n' acc acc',(acc.lookup x.1).isSome = (acc'.lookup x.1).isSome→((cellsFrom n names acc).lookup x.1).isSome = ((cellsFrom n' names acc').lookup x.1).isSome:=by
        intro names
        induction names with
        | nil=>intro n n' acc acc' h; exact h
        | cons p r ih =>
          obtain ⟨a,b⟩:=p
          intro n n' acc acc' h
          unfold cellsFrom
          split
          · refine ih _ _ _ _ ?_
            rw [List.lookup_cons,List.lookup_cons]
            cases (x.1 == a) <;> simp [h]
          · exact ih _ _ _ _ h
      rw [← h2]
      exact key _ _ _ _ _ rfl
  have he':env' = envX qual scope s.heap.objs.size f cdv (cells s.heap.objs.size):=by
    rw [he]
    show newEnv scope s.heap.objs.size mainGlobals _ _ _ _ none builtinsNs = _
    rw [hcells]
    rfl
  subst he'
  refine ⟨S.lim.keeps x.toInCall.keep,codeAny_func ?_⟩
  have S':=Sat.cells (mm:=(binds.filter fun x=>decide (scope.names.lookup x.1 = some .local)).reverse.map (fun y=>(y.1,er y.2))) S x (Nat.le_refl _) (fun y=>by
    rw [bindL_look,Option.or_none,lookup_er]; rfl) (by show ((cells s.heap.objs.size).map (·.1)).Nodup; rw [hnd2]; exact hnd) htk
  have e:((cells s.heap.objs.size).map fun p=>(p.2,PO.cel ((bindC (Env.kindOf (envX qual scope s.heap.objs.size f cdv (cells s.heap.objs.size))) binds (fun _=>none) p.1).map er))) = cv s.heap.objs.size:=by
    rw [← hcv]
    exact List.map_congr_left fun p _=>by rw [bindC_look]; rfl
  rw [show (envX qual scope s.heap.objs.size f cdv (cells s.heap.objs.size)).cells = cells s.heap.objs.size from rfl,e] at S'
  refine wpAny_mono (h _ _ S') (fun fl s'' q=>?_) fun _ _ e=>e.elim
  cases fl <;> exact q
end
noncomputable def lam02:LamTab:={ P:=219,pos:=⟨265,22,265,80⟩,qual:=(Str.ofString "_law_rule" ++ Str.ofString ".<locals>.") ++ Str.ofString "<lambda>" }
theorem hd223 {K:Frag} {P:Params} (hK:K = KK P) (h:Heap) (X:K.In h):CodeHd h 223 219:=by
  subst hK
  exact ⟨_,_,_,_,_,_,_,_,_,X _ _ (lookup_KK rfl rfl),rfl,rfl,rfl,rfl,rfl,rfl,rfl,rfl,by decide⟩
noncomputable def ruleLam:Arguments × Expr × Scope:=match stAt [14] with
  | some (.FunctionDef _ _ (_::.Assign _ (.Lambda p b s _) _::_) _ _ _ _ _ _ _)=>(p,b,s)
  | _=>(⟨[],[],none,[],[],none,[]⟩,.Constant .none 0 default,default)
noncomputable def ruleFn (c c':Addr):PO:=.prd (LamO lam02.qual ruleLam.1 ruleLam.2.1 ruleLam.2.2 [(Str.ofString "path", c)] c')
inductive Ext (C:Cx):Cx→Prop
  | refl:Ext C C
  | lam {C':Cx} {q:LamTab} (h:Ext C C') (hq:q∈C'.lams) (p:Addr × Obj):Ext C (C'.withLam q hq p)
section
variable {prog:Program} {w:World} {C:Cx} {A:Around} {σ:Led} {E:Value→Shared→Prop} {s:Shared}
theorem law_rule {Q:Value→Shared→Prop} {path:Str} {t u:Tok} {b:Bool} {k:Int} (hK:C.K = KK w.params) (hL:lam02∈C.lams) (R:Rm 8 A) (S:Sat C σ s)
    (hQ:∀ x d f ua r c c' o' vs tt fs s',o'.data = .fields vs→vs[1]? = some (.str lam02.qual tt)→fs.lookup (Str.ofString "delay") = some (.int k 0)→fs.lookup (Str.ofString "allowance") = some (.bool b)→fs.lookup (Str.ofString "applies_to") = some (.ref f) →
      Sat (C.withLam lam02 hL (c',o')) ((f,ruleFn c c')::(r,.lst [])::(ua,.lst [])::(x,.ins 76 d)::(d,.idc fs)::(c,.cel (some (.str path 0)))::σ) s'→Q (.ref x) s') :
    wpAny (model prog w) A (call (.ref 224) [.str path t,.bool b,.int k u]) Q E s:=by
  refine wpAny_call ?_
  refine' callGS (m:=[(Str.ofString "mark", .int k 0),(Str.ofString "allows", .bool b)]) (binds:=[(Str.ofString "path", .str path t),(Str.ofString "allows", .bool b),(Str.ofString "mark", .int k u)])
    (fun L=>[(Str.ofString "path", L + 1)]) (fun L=>[(L + 1,.cel (some (.str path 0)))]) R.room (ho:=?ho) (hcd:=?hcd) (hbind:=?hb) (hloc:=?hloc) (hm:=?hm) (hcells:=?hc1) (hcv:=?hc2) (hnd:=?hc3) (hnd2:=?hc4) (h:=?h) (hco:=?hco) (hgen:=?hgen) (hk:=?hk) S
  case ho=>rw [hK]; exact lookup_KK rfl rfl
  case hcd=>wtm_at "r_k"
  case hb=>exact fun s X=>kp_binds (K:=KK w.params) (hK ▸ X) fun S=>by kernel_rfl
  case hloc=>kernel_rfl
  case hm=>exact rfl
  case hco=>rfl
  case hgen=>rfl
  case hk=>rfl
  case hc1=>exact fun L=>rfl
  case hc2=>exact fun L=>rfl
  case hc3=>decide
  case hc4=>exact fun L=>rfl
  intro L s₁ S₁
  refine wpAny_execs_cons (T.kN (Q:=fun f σ'=>f = .next∧Ex4 fun x d ua r=>σ' = (r,.lst [])::(ua,.lst [])::(x,.ins 76 d)::(d,.idc (entryF ua r))::(L,.ns [(Str.ofString "rule", .ref x),(Str.ofString "mark", .int k 0),(Str.ofString "allows", .bool b)])::(L + 1,.cel (some (.str path 0)))::σ) ?_ S₁ ?_)
  · dsimp only [List.cons_append,List.nil_append]
    wtm_at "t_run"
    refine T_newEntry hK ((R.deeper _).le (by wtm_at "om")) fun x d ua r=>?_
    wtm_at "t_run"
    exact ⟨rfl,x,d,ua,r,rfl⟩
  rintro fl σ₂ s₂ ⟨rfl,x,d,ua,r,rfl⟩ S₂
  dsimp only
  refine wpAny_execs_cons (plainObj_wpAny_Assign_Attribute (lamMake (q:=lam02) (c:=223) S₂ hL rfl rfl rfl rfl rfl rfl (hd223 hK _ S₂.kin) fun f c' o' vs tt s₃ hd hv S₃=>?_) (by with_unfolding_all rfl))
  have hK':(C.withLam lam02 hL (c',o')).K = KK w.params:=hK
  refine T.kN (C:=C.withLam lam02 hL (c',o')) (Q:=fun v σ'=>v = .ref x∧σ' = (f,ruleFn (L + 1) c')::(r,.lst [])::(ua,.lst [])::(x,.ins 76 d)::(d,.idc (entryF ua r))::(L,.ns [(Str.ofString "rule", .ref x),(Str.ofString "mark", .int k 0),(Str.ofString "allows", .bool b)])::(L + 1,.cel (some (.str path 0)))::σ) ?_ S₃ ?_
  · wtm_at "t_run"
    exact ⟨rfl,rfl⟩
  rintro v σ₄ s₄ ⟨rfl,rfl⟩ S₄
  refine T.kN (C:=C.withLam lam02 hL (c',o')) (Q:=fun _ σ'=>σ' = (f,ruleFn (L + 1) c')::(r,.lst [])::(ua,.lst [])::(x,.ins 76 d)::(d,.idc ((Str.ofString "applies_to", .ref f)::entryF ua r))::(L,.ns [(Str.ofString "rule", .ref x),(Str.ofString "mark", .int k 0),(Str.ofString "allows", .bool b)])::(L + 1,.cel (some (.str path 0)))::σ) ?_ S₄ ?_
  · refine T_setS (by wtm_at "r_mem") (sh_app hK') (by wtm_at "r_ur") (by exact Nat.le_of_ble_eq_true rfl) ?_
    rfl
  rintro _ σ₅ s₅ rfl S₅
  dsimp only
  refine T.kN (C:=C.withLam lam02 hL (c',o')) (Q:=fun fl σ'=>fl = .ret (.ref x)∧∃ fs,Al4 (fs.lookup (Str.ofString "delay") = some (.int k 0)) (fs.lookup (Str.ofString "allowance") = some (.bool b)) (fs.lookup (Str.ofString "applies_to") = some (.ref f)) (σ' = (f,ruleFn (L + 1) c')::(r,.lst [])::(ua,.lst [])::(x,.ins 76 d)::(d,.idc (fs))::(L,.ns [(Str.ofString "rule", .ref x),(Str.ofString "mark", .int k 0),(Str.ofString "allows", .bool b)])::(L + 1,.cel (some (.str path 0)))::σ)) ?_ S₅ ?_
  · wtm_at "t_run"
    refine T_setS (by wtm_at "r_mem") (sh_all hK') (by wtm_at "r_ur") (by exact Nat.le_of_ble_eq_true rfl) ?_
    wtm_at "t_run"
    exact ⟨rfl,repl (Str.ofString "delay") (Value.int k 0) ((Str.ofString "allowance", Value.bool b)::(Str.ofString "applies_to", Value.ref f)::entryF ua r),by kernel_rfl,by kernel_rfl,by kernel_rfl,rfl⟩
  rintro fl σ₆ s₆ ⟨rfl,fs,l1,l2,l3,rfl⟩ S₆
  refine hQ x d f ua r (L + 1) c' o' vs tt fs s₆ hd hv l1 l2 l3 (S₆.sub (.cons_cons _ (.cons_cons _ (.cons_cons _ (.cons_cons _ (.cons_cons _ (.cons _ (List.Sublist.refl _))))))))
end
noncomputable def Pinned (C:Cx) (c':Addr):Prop:=Ex3 fun o' vs tt=>Al3 ({ lam02 with own:=some (c',o') }∈C.lams) (o'.data = .fields vs) (vs[1]? = some (.str lam02.qual tt))
theorem Ext.sub {C C':Cx} (h:Ext C C'):∀ q∈C.lams,q∈C'.lams:=by
  induction h with
  | refl=>exact fun _ h=>h
  | lam _ _ _ ih=>exact fun q hq=>.tail _ (ih q hq)
theorem Ext.same {C C':Cx} (h:Ext C C'):C'.K = C.K∧C'.h₀ = C.h₀:=by
  induction h with
  | refl=>exact ⟨rfl,rfl⟩
  | lam _ _ _ ih=>exact ih
theorem Ext.weak {C C':Cx} (h:Ext C C') {σ:Led} {s:Shared} (S:Sat C' σ s):Sat C σ s:=by
  induction h with
  | refl=>exact S
  | lam _ _ _ ih=>exact ih S.noLam
theorem Pinned.lam {C:Cx} {hL:lam02∈C.lams} {c':Addr} {o':Obj} {vs:Array Value} {tt:Tok} (h1:o'.data = .fields vs) (h2:vs[1]? = some (.str lam02.qual tt)):Pinned (C.withLam lam02 hL (c',o')) c':=⟨o',vs,tt,.head _,h1,h2⟩
theorem Pinned.grow {C:Cx} {q:LamTab} {hL:q∈C.lams} {c':Addr} {p:Addr × Obj} (h:Pinned C c'):Pinned (C.withLam q hL p) c':=let ⟨o',vs,tt,h1,h2,h3⟩:=h; ⟨o',vs,tt,.tail _ h1,h2,h3⟩
section
variable {prog:Program} {w:World} {C:Cx} {A:Around} {σ:Led} {E:Value→Led→Prop} {f c c':Addr} {path name:Str} {t:Tok}
noncomputable def reach (path name:Str):Int:=if Txt.startswith name path = true then path.length + 1 else 0
theorem T_ruleCall {Q:Value→Led→Prop} (hK:C.K = KK w.params) (R:Rm 4 A) (hp:Pinned C c') (hf:(f,ruleFn c c')∈σ) (hc:(c,.cel (some (.str path 0)))∈σ) (hz:path.length≤1000) (h:∀ t,Q (.int (reach path name) t) σ) :
    T prog w C A σ (call (.ref f) [.str name t]) Q E:=fun s S=>by
  obtain ⟨o',vs,tt,hm,h1,h2⟩:=hp
  obtain ⟨hn,hlo,hget⟩:=(S.lam _ hm).fix (c',o') rfl
  refine wpAny_call (lamCall (q:={ lam02 with own:=some (c',o') }) (hq:=hm) (binds:=[(Str.ofString "name", .str name t)]) (S.lams hm hn hlo hget) hf h1 h2 R.room (fun pm ctv=>rfl) (fun y hy=>by rw [List.mem_singleton.mp hy]; rfl) (fun L s₅ S₅=>?_) rfl rfl rfl (by decide))
  have S₆:Sat C ((L,.ns [(Str.ofString "name", .str name 0)])::σ) s₅:=S₅.noLam
  refine T.kN (C:=C) (Q:=fun v σ'=>∃ t,v = .int (reach path name) t∧σ' = (L,.ns [(Str.ofString "name", .str name 0)])::σ) ?_ S₆ ?_
  · change T _ _ _ _ _ (eval (Expr.IfExp _ _ _ _) _) _ _
    wtm_at "t_run"
    refine T_gmStarts ?_
    wtm_at "t_run"
    refine T_Name (T_ldF (by rfl) (.tail _ hc) (by rfl) (by rfl) ?_)
    wtm_at "t_vs"
    wtm_at "t_run"
    refine T_starts ?_
    wtm_at "t_run"
    unfold reach
    cases Txt.startswith name path with
    | true =>
      refine ifT rfl ?_
      wtm_at "t_run"
      refine T_Name (T_ldF (by rfl) (.tail _ hc) (by rfl) (by rfl) ?_)
      wtm_at "t_vs"
      wtm_at "t_run"
      exact ⟨_,rfl,rfl⟩
    | false =>
      refine ifF rfl ?_
      wtm_at "t_run"
      exact ⟨_,rfl,rfl⟩
  rintro v σ' s' ⟨t',rfl,rfl⟩ S'
  exact ⟨_,h t',S'.sub (List.sublist_cons_self _ _)⟩
theorem fnAt {s:Shared} (S:Sat C σ s) (hf:(f,ruleFn c c')∈σ):FnAt f s.heap:=by
  obtain ⟨o,ho,pm,ctv,rfl⟩:=S.get hf
  exact ⟨_,_,_,_,ho⟩
theorem T_cwRule {env:Env} {pos:Pos} {first:List Value} {e:Expr} {rest:List Expr} {Q:Value→Led→Prop} (hf:(f,ruleFn c c')∈σ)
    (h:T prog w C A σ (spliced (backTo pos (starEach (e::rest) env))) (fun vs σ₁=>(f,ruleFn c c')∈σ₁∧T prog w C A σ₁ (call (.ref f) (first ++ vs)) Q E) E)
    (he:starEach (e::rest) env = (false,eval e env)::starEach rest env:=by rfl) (hp:(backTo pos (starEach rest env)).any (·.1) = false:=by rfl):T prog w C A σ (callWith pos (.ref f) first (backTo pos (starEach (e::rest) env)) []) Q E:=fun s S =>
  callWith_F (fnAt S hf) (wpAny_mono (h s S) (fun vs s₁ ⟨σ',⟨hf',h1⟩,S'⟩=>⟨fnAt S' hf',h1 _ S'⟩) fun _ _ e=>e) he hp
end
structure Rule where
  (path:Str) (ok:Bool) (mark:Int)
noncomputable def RuleAt (C:Cx) (τ:Led) (v:Value) (r:Rule):Prop:=Ex6 fun x d f c c' fs=>Al10 (v = .ref x) ((x,PO.ins 76 d)∈τ) ((d,PO.idc fs)∈τ) (fs.lookup (Str.ofString "delay") = some (.int r.mark 0)) (fs.lookup (Str.ofString "allowance") = some (.bool r.ok)) (fs.lookup (Str.ofString "applies_to") = some (.ref f)) ((f,ruleFn c c')∈τ) ((c,PO.cel (some (.str r.path 0)))∈τ) (Pinned C c') (r.path.length≤20)
inductive rls (C:Cx) (τ:Led):List Value→List Rule→Prop
  | nil:rls C τ [] []
  | cons {v:Value} {r:Rule} {vs:List Value} {rs:List Rule} (h:RuleAt C τ v r) (hr:rls C τ vs rs):rls C τ (v::vs) (r::rs)
theorem RuleAt.mono {C C':Cx} {τ τ':Led} {v:Value} {r:Rule} (h:RuleAt C τ v r) (hs:∀ x∈τ,x∈τ') (hp:∀ c',Pinned C c'→Pinned C' c'):RuleAt C' τ' v r:=by
  obtain ⟨x,d,f,c,c',fs,h1,h2,h3,h4,h5,h6,h7,h8,h9,h10⟩:=h
  exact ⟨x,d,f,c,c',fs,h1,hs _ h2,hs _ h3,h4,h5,h6,hs _ h7,hs _ h8,hp _ h9,h10⟩
theorem rls.mono {C C':Cx} {τ τ':Led} {vs:List Value} {rs:List Rule} (h:rls C τ vs rs) (hs:∀ x∈τ,x∈τ') (hp:∀ c',Pinned C c'→Pinned C' c'):rls C' τ' vs rs:=by
  induction h with
  | nil=>exact .nil
  | cons h _ ih=>exact .cons (h.mono hs hp) ih
theorem rls.app {C:Cx} {τ:Led} {vs vs':List Value} {rs rs':List Rule} (h:rls C τ vs rs) (h':rls C τ vs' rs'):rls C τ (vs ++ vs') (rs ++ rs'):=by
  induction h with
  | nil=>exact h'
  | cons h _ ih=>exact .cons h ih
theorem rls.len {C:Cx} {τ:Led} {vs:List Value} {rs:List Rule} (h:rls C τ vs rs):vs.length = rs.length:=by
  induction h with
  | nil=>rfl
  | cons _ _ ih=>rw [List.length_cons,List.length_cons,ih]
theorem rls.at {C:Cx} {τ:Led} {vs:List Value} {rs:List Rule} (h:rls C τ vs rs):∀ {i:Nat} (hi:i < vs.length) (hj:i < rs.length),RuleAt C τ vs[i] rs[i]:=by
  induction h with
  | nil=>exact fun hi=>absurd hi (Nat.not_lt_zero _)
  | cons h _ ih =>
    intro i hi hj
    cases i with
    | zero=>exact h
    | succ i=>exact ih (Nat.lt_of_succ_lt_succ hi) (Nat.lt_of_succ_lt_succ hj)
noncomputable def allowStep (fn:Str) (st:Int × Bool) (r:Rule):Int × Bool :=
  if reach r.path fn = 0 then st else if reach r.path fn > st.1 then (reach r.path fn,r.ok) else if reach r.path fn = st.1∧st.2 = false then (st.1,r.ok) else st
noncomputable def allow (rules:List Rule) (fn:Str):Bool:=(rules.foldl (allowStep fn) (-1,true)).2
section
variable {prog:Program} {w:World} {C:Cx} {A:Around} {σ:Led} {E:Value→Led→Prop} {x d r:Addr} {fs:List (Str × Value)} {vs:List Value} {rules:List Rule} {fn:Str} {t:Tok}
theorem T_gtI {a b:Int} {t u:Tok} {Q:Value→Led→Prop} (h:Q (.bool (decide (b < a))) σ):T prog w C A σ (compareOp .Gt (.int a t) (.int b u)) Q E:=fun _ S=>PyProof.Rows.gt_int ⟨_,h,S⟩
theorem T_leI {a b:Int} {t u:Tok} {Q:Value→Led→Prop} (h:Q (.bool (decide (a≤b))) σ):T prog w C A σ (compareOp .LtE (.int a t) (.int b u)) Q E:=fun _ S=>PyProof.Rows.le_int ⟨_,h,S⟩
theorem T_allowance {Q:Value→Led→Prop} (hK:C.K = KK w.params) (R:Rm 8 A) (hx:(x,.ins 76 d)∈σ) (hd:(d,.idc fs)∈σ) (hr:fs.lookup (Str.ofString "rulelines") = some (.ref r)) (hv:(r,.lst vs)∈σ) (hrl:rls C σ vs rules) (h:Q (.bool (allow rules fn)) σ) :
    T prog w C A σ (call (.ref 73) [.ref x,.str fn t]) Q E:=by
  refine' T_callF (m:=[(Str.ofString "filename", .str fn 0),(Str.ofString "self", .ref x)]) [(Str.ofString "self", .ref x),(Str.ofString "filename", .str fn t)] R.room (ho:=?ho) (hcd:=?hcd) (hbind:=?hb) (hloc:=?hloc) (hm:=?hm) (h:=?h) (hco:=?hco) (hgen:=?hgen) (hk:=?hk) (hcell:=?hcell)
  case ho=>rw [hK]; exact lookup_KK rfl rfl
  case hcd=>wtm_at "r_k"
  case hb=>exact fun s X=>kp_binds (K:=KK w.params) (hK ▸ X) fun S=>by kernel_rfl
  case hloc=>kernel_rfl
  case hm=>exact rfl
  case hco=>rfl
  case hgen=>rfl
  case hk=>rfl
  case hcell=>decide
  intro L
  wtm_at "t_run"
  refine T_iterL (.tail _ hv) fun it=>?_
  refine T_forL (xs:=vs) R.hand (fun rr τ=>Ex2 fun m k=>Al5 (m.lookup (Str.ofString "best_match") = some (.int ((rules.take k).foldl (allowStep fn) (-1,true)).1 0)) (m.lookup (Str.ofString "allowance") = some (.bool ((rules.take k).foldl (allowStep fn) (-1,true)).2)) (m.lookup (Str.ofString "filename") = some (.str fn 0)) (rr = vs.drop k) (τ = (L,PO.ns m)::σ)) ?w0 ?wn ?wt ?wf
  case w0=>exact ⟨_,0,rfl,rfl,rfl,rfl,rfl⟩
  case wn=>rintro rr τ ⟨m,k,_,_,_,_,rfl⟩; exact .tail _ hv
  case wt =>
    rintro v rr τ i ⟨m,k₀,l1,l2,l3,hrr,rfl⟩
    obtain ⟨hlt,hv1,rfl⟩:=drop_c hrr
    have hlr:k₀ < rules.length:=hrl.len ▸ hlt
    obtain ⟨xr,dr,f,c,c',fr,e,q1,q2,q3,q4,q5,q6,q7,q8,q9⟩:=hrl.at hlt hlr
    rw [e] at hv1
    have hv2:=er_ref hv1
    subst hv2
    have htk:(rules.take (k₀ + 1)).foldl (allowStep fn) (-1,true) = allowStep fn ((rules.take k₀).foldl (allowStep fn) (-1,true)) rules[k₀]:=by
      rw [List.take_succ_eq_append_getElem hlr,List.foldl_append]; rfl
    generalize (rules.take k₀).foldl (allowStep fn) (-1,true) = st at *
    generalize rules[k₀] = ru at *
    obtain ⟨best,al⟩:=st
    dsimp only at l1 l2
    refine T_assignN (T_stL (by wtm_at "r_ur") (by rfl) (by rfl) ?_)
    refine T.opq fun Q1 hQ1=>?_
    wtm_at "t_run"
    refine T_mthS (.tail _ (.tail _ q1)) (.tail _ (.tail _ q2)) (sh_app hK) q5 rfl ?_
    wtm_at "t_vs"
    wtm_at "t_run"
    refine T_cwRule (.tail _ (.tail _ q6)) ?_
    wtm_at "t_run"
    refine ⟨.tail _ (.tail _ q6),?_⟩
    dsimp only [List.nil_append]
    refine T_ruleCall hK ((R.down.down.deeper _).le (by wtm_at "om")) q8 (.tail _ (.tail _ q6)) (.tail _ (.tail _ q7)) (by wtm_at "om") fun t2=>?_
    wtm_at "t_run"
    have fin:∀ best' al' m',allowStep fn (best,al) ru = (best',al')→m'.lookup (Str.ofString "best_match") = some (.int best' 0)→m'.lookup (Str.ofString "allowance") = some (.bool al')→m'.lookup (Str.ofString "filename") = some (.str fn 0) →
        Q1 .next ((it,itr r i)::(L,PO.ns m')::σ):=fun best' al' m' e h1 h2 h3 =>
      hQ1 _ _ ⟨_,⟨m',k₀ + 1,by rw [htk,e]; exact h1,by rw [htk,e]; exact h2,h3,rfl,rfl⟩,List.Sublist.refl _⟩
    unfold allowStep at fin
    dsimp only at fin
    by_cases h0:reach ru.path fn = 0
    · rw [if_pos h0] at fin
      refine ifF (by rw [h0]; rfl) ?_
      wtm_at "t_run"
      exact fin best al _ rfl l1 l2 l3
    · rw [if_neg h0] at fin
      refine ifT (by simpa using h0) ?_
      wtm_at "t_run"
      refine T_gtI ?_
      wtm_at "t_run"
      by_cases h1:best < reach ru.path fn
      · rw [if_pos h1] at fin
        refine ifT (decide_eq_true h1) ?_
        wtm_at "t_run"
        refine T_getS (.tail _ (.tail _ q1)) (.tail _ (.tail _ q2)) (sh_all hK) q4 rfl ?_
        wtm_at "t_vs"
        wtm_at "t_run"
        exact fin _ _ _ rfl rfl rfl l3
      · rw [if_neg h1] at fin
        refine ifF (decide_eq_false h1) ?_
        wtm_at "t_run"
        by_cases h2:reach ru.path fn = best
        · refine ifT (by rw [beq_iff_eq]; exact h2) ?_
          wtm_at "t_run"
          cases al with
          | false =>
            rw [if_pos ⟨h2,rfl⟩] at fin
            wtm_at "t_run"
            refine T_tNot (T_tV ?_)
            wtm_at "t_run"
            refine T_getS (.tail _ (.tail _ q1)) (.tail _ (.tail _ q2)) (sh_all hK) q4 rfl ?_
            wtm_at "t_vs"
            wtm_at "t_run"
            exact fin _ _ _ rfl l1 rfl l3
          | true =>
            rw [if_neg (fun e=>by cases e.2)] at fin
            wtm_at "t_run"
            refine T_tNot (T_tV ?_)
            wtm_at "t_run"
            exact fin _ _ _ rfl l1 l2 l3
        · rw [if_neg (fun e=>h2 e.1)] at fin
          refine ifF (by rw [beq_eq_false_iff_ne]; exact h2) ?_
          wtm_at "t_run"
          exact fin _ _ _ rfl l1 l2 l3
  case wf =>
    rintro τ ⟨m,k,l1,l2,l3,hrr,rfl⟩
    have hk:vs.length≤k:=List.drop_eq_nil_iff.mp hrr.symm
    rw [List.take_of_length_le (by rw [← hrl.len]; exact hk)] at l2
    dsimp only
    wtm_at "t_run"
    exact ⟨_,List.sublist_cons_self _ _,h⟩
end
noncomputable def spc (c:Nat):Str:=if c = 38 then Str.ofString "&amp;" else if c = 34 then Str.ofString "&quot;" else if c = 60 then Str.ofString "&lt;" else ⟨#[c]⟩
noncomputable def spell (x:Str):Str:=Builtin.Str.glued (Str.ofString "") (x.cps.toList.map spc)
theorem spc_len (c:Nat):(spc c).length≤6:=by
  unfold spc
  split
  · exact Nat.le_of_ble_eq_true rfl
  · split
    · exact Nat.le_of_ble_eq_true rfl
    · split
      · exact Nat.le_of_ble_eq_true rfl
      · exact Nat.le_of_ble_eq_true rfl
theorem spell_sum (l:List Nat):((l.map spc).map (·.length)).sum≤6 * l.length:=by
  induction l with
  | nil=>exact Nat.le_refl _
  | cons c r ih =>
    have:=spc_len c
    simp only [List.map_cons,List.sum_cons,List.length_cons]
    wtm_at "om"
theorem spc_at (c:Nat):(valueAt [(Str.ofString "&", Value.str (Str.ofString "&amp;") 0),(Str.ofString "\"", .str (Str.ofString "&quot;") 0),(Str.ofString "<", .str (Str.ofString "&lt;") 0)] (⟨#[c]⟩:Str)).getD (.str ⟨#[c]⟩ 0) = .str (spc c) 0:=by
  have h1:∀ d:Nat,(decide ((⟨#[d]⟩:Str) = ⟨#[c]⟩)) = decide (c = d):=fun d=>by
    by_cases h:c = d
    · subst h; simp
    · rw [decide_eq_false h]
      refine decide_eq_false fun e=>h ?_
      injection e with e
      have:=congrArg Array.toList e
      simp at this
      exact this.symm
  unfold valueAt spc
  rw [show Str.ofString "&" = ⟨#[38]⟩ from rfl,show Str.ofString "\"" = ⟨#[34]⟩ from rfl,show Str.ofString "<" = ⟨#[60]⟩ from rfl]
  simp only [List.find?_cons,h1]
  by_cases e1:c = 38
  · simp [e1]
  · by_cases e2:c = 34
    · simp [e2]
    · by_cases e3:c = 60
      · simp [e3]
      · simp [e1,e2,e3]
section
variable {prog:Program} {w:World} {C:Cx} {A:Around} {σ:Led} {E:Value→Led→Prop} {x:Str} {t:Tok}
theorem T_spelled {Q:Value→Led→Prop} (hK:C.K = KK w.params) (R:Rm 4 A) (ha:x.cps.all (· < 128) = true) (hz:x.length≤1000) (h:∀ t,Q (.str (spell x) t) σ) :
    T prog w C A σ (call (.ref 229) [.str x t]) Q E:=by
  refine' T_callF (m:=[(Str.ofString "address", .str x 0)]) [(Str.ofString "address", .str x t)] R.room (ho:=?ho) (hcd:=?hcd) (hbind:=?hb) (hloc:=?hloc) (hm:=?hm) (h:=?h) (hco:=?hco) (hgen:=?hgen) (hk:=?hk) (hcell:=?hcell)
  case ho=>rw [hK]; exact lookup_KK rfl rfl
  case hcd=>wtm_at "r_k"
  case hb=>exact fun s X=>kp_binds (K:=KK w.params) (hK ▸ X) fun S=>by kernel_rfl
  case hloc=>kernel_rfl
  case hm=>exact rfl
  case hco=>rfl
  case hgen=>rfl
  case hk=>rfl
  case hcell=>decide
  intro L
  wtm_at "t_run"
  wtm_at "t_lc"
  wtm_at "t_run"
  refine T_iterS ha fun it=>?_
  refine' T_comp (x.cps.toList) (fun c=>.str ⟨#[c]⟩ 0) (fun c=>some (.str (spc c) 0)) (itsS R.hand) trivial ?z1 ?z2 ?z3 ?z4 ?zt ?zf (fun _ _ _=>trivial)
  case z1=>show x.length≤_; wtm_at "om"
  case z2=>rfl
  case z3=>rfl
  case z4=>decide
  case zt =>
    intro D L2 c ys i m hc
    refine T_t0 ?_
    refine T_MCall ?_ (he:=by rfl)
    with_reducible refine T_Dict3 ?q1 ?q2 ?q3 fun D2=>?_
    case q1=>decide
    case q2=>decide
    case q3=>decide
    wtm_at "t_run"
    refine T_gmGet (by wtm_at "r_mem") ?_
    wtm_at "t_run"
    refine T_getDfl (pv:=.str (spc c) 0) (.head _) (spc_at c) fun v hv=>?_
    exact ⟨(congrArg some hv).symm,List.sublist_cons_self _ _⟩
  case zf =>
    rw [fm_txts]
    intro D
    have h1:=spell_sum x.cps.toList
    have h0:x.cps.toList.length = x.length:=rfl
    wtm_at "t_run"
    refine T_join (.head _) (by rw [foldl_len]; wtm_at "om") (by rw [size_glued]; show _ + _ * 0≤_; wtm_at "om") fun _=>?_
    wtm_at "t_run"
    exact ⟨_,.cons _ (.cons _ (List.Sublist.refl _)),h _⟩
end
section
variable {prog:Program} {w:World} {C:Cx} {A:Around} {σ:Led} {E:Value→Led→Prop} {env:Env}
theorem T_AssignSw {elts:List Expr} {k:Nat} {tpos pos:Pos} {value:Expr} {n1 n2:Str} {Q:Flow→Led→Prop} (hh:A.handled = none)
    (h:T prog w C A σ (eval value env) (fun v σ₁=>∃ a p q,v = .ref a∧(a,PO.tup [p,q])∈σ₁∧Vs q fun v2=>T prog w C A σ₁ (storeName env n2 v2) (fun _ σ₂=>Vs p fun v1=>T prog w C A σ₂ (storeName env n1 v1) (fun _=>Q .next) E) E) E)
    (hs:swapsWithSole [.Tuple elts k tpos] value pos.line env = Pure.pure false) (hw:swappedStores [.Tuple elts k tpos] value env = Pure.pure (some [n1,n2])) :
    T prog w C A σ (exec (.Assign [.Tuple elts k tpos] value pos) env) Q E:=fun s S=>by
  refine Assign_Tuple_swapped (h.k S fun v σ₁ s₁ h₁ S₁=>?_) hs hw
  obtain ⟨a,p,q,rfl,hT,h₂⟩:=h₁
  obtain ⟨o,ho,its,n,rfl,e⟩:=S₁.get hT
  obtain ⟨v1,v2,hv⟩:=two_of (l:=its.toList) (by have:=congrArg List.length e; rw [List.length_map] at this; exact this)
  have hz:its.size = 2:=by rw [← Array.length_toList,hv]; rfl
  rw [hv] at e
  injection e with e1 e
  injection e with e2 _
  show wpAny _ _ (unpackItems (.ref a) 2 none) _ _ s₁
  rw [← hz]
  refine unpackItems_tuple hh ⟨_,ho,rfl,n,rfl⟩ fun h' hx=>?_
  rw [hv]
  have S':=S₁.grown (h':=h') fun b o e=>hx b o (Nat.ne_of_lt (Heap.lt_size e)) e
  refine wpAny_assignInOrder_more (bindName_ ((h₂.get e2).k S' fun _ σ₂ s₂ h₃ S₂=>?_))
  refine wpAny_assignInOrder_more (bindName_ ((h₃.get e1).k S₂ fun _ σ₃ s₃ h₄ S₃=>wpAny_assignInOrder_none ⟨_,h₄,S₃⟩))
end
inductive Part | decl (k:Nat) (value:Str) | attr (k:Nat) (word value:Str)
noncomputable def PartOk (p:Str):Part→Prop
  | .decl k v=>∃ name word,Txt.split (Txt.slice p none (some (-1))) (Str.ofString "=\"") = [name,v]∧Txt.split name (Str.ofString ":") = [Str.ofString "xmlns", word]∧PySem.intText? (Txt.slice word (some 1) none) = some (k:Int)∧(Txt.slice word (some 1) none).length≤640
  | .attr k w v=>Ex2 fun name kind=>Al5 (Txt.split (Txt.slice p none (some (-1))) (Str.ofString "=\"") = [name,v]) (Txt.split name (Str.ofString ":") = [kind,w]) (kind ≠ Str.ofString "xmlns") (PySem.intText? (Txt.slice kind (some 1) none) = some (k:Int)) ((Txt.slice kind (some 1) none).length≤640)
inductive PartsOk:List Str→List Part→Prop
  | nil:PartsOk [] []
  | cons {x:Str} {P:Part} {xs:List Str} {Ps:List Part} (h:PartOk x P) (h1:x.length≤1000) (hr:PartsOk xs Ps):PartsOk (x::xs) (P::Ps)
noncomputable def numStep (d:List (Str × Value)):Part→List (Str × Value)
  | .decl k v=>stored d v (.int k 0)
  | .attr ..=>d
noncomputable def rowOf:Part→Option (At × At)
  | .decl ..=>none
  | .attr k w _=>some (.i k,.s w)
noncomputable def numD (d:List (Str × Value)) (ps:List Part):List (Str × Value):=ps.foldl numStep d
noncomputable def rowL (ps:List Part):List (At × At):=ps.filterMap rowOf
theorem PartsOk.len {xs:List Str} {Ps:List Part} (h:PartsOk xs Ps):xs.length = Ps.length:=by
  induction h with
  | nil=>rfl
  | cons _ _ _ ih=>rw [List.length_cons,List.length_cons,ih]
theorem PartsOk.at {xs:List Str} {Ps:List Part} (h:PartsOk xs Ps):∀ {i:Nat} (hi:i < xs.length) (hj:i < Ps.length),PartOk xs[i] Ps[i]∧xs[i].length≤1000:=by
  induction h with
  | nil=>exact fun hi=>absurd hi (Nat.not_lt_zero _)
  | cons h h1 _ ih =>
    intro i hi hj
    cases i with
    | zero=>exact ⟨h,h1⟩
    | succ i=>exact ih (Nat.lt_of_succ_lt_succ hi) (Nat.lt_of_succ_lt_succ hj)
theorem numD_take {d:List (Str × Value)} {ps:List Part} {k:Nat} (hk:k < ps.length):numD d (ps.take (k + 1)) = numStep (numD d (ps.take k)) ps[k]:=by
  unfold numD
  rw [List.take_succ_eq_append_getElem hk,List.foldl_append]; rfl
theorem rowL_take {ps:List Part} {k:Nat} (hk:k < ps.length):rowL (ps.take (k + 1)) = rowL (ps.take k) ++ (rowOf ps[k]).toList:=by
  unfold rowL
  rw [List.take_succ_eq_append_getElem hk,List.filterMap_append,List.filterMap_cons]
  cases rowOf ps[k] <;> rfl
theorem stored_le (kvs:List (Str × Value)) (k:Str) (v:Value):(stored kvs k v).length≤kvs.length + 1:=by
  unfold stored
  split
  · rw [List.length_map]; wtm_at "om"
  · rw [List.length_append]; exact Nat.le_refl _
theorem numD_le (d:List (Str × Value)) (ps:List Part):(numD d ps).length≤d.length + ps.length:=by
  induction ps generalizing d with
  | nil=>exact Nat.le_refl _
  | cons p r ih =>
    have:=ih (numStep d p)
    have h2:(numStep d p).length≤d.length + 1:=by
      cases p with
      | decl k v=>exact stored_le ..
      | attr k w v=>exact Nat.le_succ _
    show (numD (numStep d p) r).length≤_
    rw [List.length_cons]; wtm_at "om"
theorem rowL_le (ps:List Part):(rowL ps).length≤ps.length:=List.length_filterMap_le ..
theorem split2_len {x y a b:Str} (h:Txt.split x y = [a,b]):a.length≤x.length∧b.length≤x.length:=by
  have e:=StrLaws.join_split x y
  rw [h] at e
  have e:=congrArg Str.length e
  have e2:(Str.join y [a,b]).length = a.length + y.length + b.length:=by
    show (a ++ y ++ b).length = _
    rw [Str.length_append,Str.length_append]
  wtm_at "om"
theorem slice_le' (x:Str) (lo hi:Option Int):(Txt.slice x lo hi).length≤x.length:=Txt.slice_le x _ _
section
variable {prog:Program} {w:World} {C:Cx} {A:Around} {σ σ':Led} {E:Value→Led→Prop} {env:Env} {d:Addr}
theorem T.weakU {α:Type} {t:Sem α} {p p':PO} {Q:α→Led→Prop} (U:Upd d p p' σ σ') (hp:∀ o,p.Of o→p'.Of o) (h:T prog w C A σ' t Q E):T prog w C A σ t Q E:=fun s S=>h s (Wk.upd U hp s S)
theorem T.dict0 {α:Type} {t:Sem α} {Q:α→Led→Prop} (U:Upd d (.raw emptyDict) (dcp prog w []) σ σ') (h:T prog w C A σ' t Q E):T prog w C A σ t Q E:=T.weakU U (fun o ho=>by rw [show o = emptyDict from ho]; exact dco_empty) h
theorem clip_nat (n a:Nat):clipAt n (a:Int) = min a n:=by
  unfold clipAt
  rw [if_neg (Int.not_lt.mpr (Int.natCast_nonneg a))]
  rcases Nat.le_total a n with h | h
  · rw [Nat.min_eq_left h,Int.min_eq_left (Int.ofNat_le.mpr h),Int.max_eq_right (Int.natCast_nonneg _),Int.toNat_natCast]
  · rw [Nat.min_eq_right h,Int.min_eq_right (Int.ofNat_le.mpr h),Int.max_eq_right (Int.natCast_nonneg _),Int.toNat_natCast]
theorem pick_from (xs:List Value) (a:Nat):pick xs (some (a:Int)) none none = xs.drop a:=by
  unfold pick
  rw [kmk_pick_nat _ (sliceBounds_plain ..)]
  simp only [Option.elim,List.size_toArray]
  rw [List.take_of_length_le (by simp)]
  rw [clip_nat]
  by_cases h:a≤xs.length
  · rw [Nat.min_eq_left h]
  · rw [Nat.min_eq_right (Nat.le_of_not_le h),List.drop_eq_nil_of_le (Nat.le_refl _),List.drop_eq_nil_of_le (Nat.le_of_not_le h)]
theorem txts_drop (l:List Str) (k:Nat):(txts l).drop k = txts (l.drop k):=List.map_drop.symm
theorem part_two {p : Str} {P : Part} (hpo : PartOk p P) : Ex4 fun name v kind word => Al3 (Txt.split (Txt.slice p none (some (-1))) (Str.ofString "=\"") = [name, v]) (Txt.split name (Str.ofString ":") = [kind, word]) (((kind = Str.ofString "xmlns" ∧ ∃ n : Nat, PySem.intText? (Txt.slice word (some 1) none) = some (n : Int) ∧ (Txt.slice word (some 1) none).length ≤ 640 ∧ P = .decl n v) ∨
      (kind ≠ Str.ofString "xmlns" ∧ ∃ n:Nat,PySem.intText? (Txt.slice kind (some 1) none) = some (n:Int)∧(Txt.slice kind (some 1) none).length≤640∧P = .attr n word v))):=by
  cases P with
  | decl n v=>obtain ⟨name,word,h1,h2,h3,h4⟩:=hpo; exact ⟨name,v,_,word,h1,h2,.inl ⟨rfl,n,h3,h4,rfl⟩⟩
  | attr n w v=>obtain ⟨name,kind,h1,h2,h3,h4,h5⟩:=hpo; exact ⟨name,v,kind,w,h1,h2,.inr ⟨h3,n,h4,h5,rfl⟩⟩
theorem T_places {Q:Value→Led→Prop} {text hd p0:Str} {ps:List Str} {Ps:List Part} {t:Tok} (hK:C.K = KK w.params) (R:Rm 4 A) (hz:text.length≤100000)
    (hs1:(Txt.split text (Str.ofString ">")).length≤1000) (h0:(txts (Txt.split text (Str.ofString ">")))[0]? = some (.str hd 0)) (hhl:hd.length≤100000) (hsp:Txt.split hd (Str.ofString " ") = p0::ps) (hP:PartsOk ps Ps) (hn:ps.length≤1000)
    (h:∀ TT N Rr refs tx,prs tx refs ((rowL Ps).map atp)→Q (.ref TT) ((TT,.tup [.ref N,.ref Rr])::(Rr,.lst refs)::(N,dcp prog w (numD [] Ps))::(tx ++ σ))) :
    T prog w C A σ (call (.ref 236) [.str text t]) Q E:=by
  refine' T_callF (m:=[(Str.ofString "text", .str text 0)]) [(Str.ofString "text", .str text t)] R.room (ho:=?ho) (hcd:=?hcd) (hbind:=?hb) (hloc:=?hloc) (hm:=?hm) (h:=?h) (hco:=?hco) (hgen:=?hgen) (hk:=?hk) (hcell:=?hcell)
  case ho=>rw [hK]; exact lookup_KK rfl rfl
  case hcd=>wtm_at "r_k"
  case hb=>exact fun s X=>kp_binds (K:=KK w.params) (hK ▸ X) fun S=>by kernel_rfl
  case hloc=>kernel_rfl
  case hm=>exact rfl
  case hco=>rfl
  case hgen=>rfl
  case hk=>rfl
  case hcell=>decide
  intro L
  refine T_cons ?_
  refine' T_AssignSw R.hand ?sw ?sw1 ?sw2
  case sw1=>rfl
  case sw2=>rfl
  wtm_at "t_run"
  refine ⟨_,_,_,rfl,.head _,?_⟩
  wtm_at "t_vs"
  wtm_at "t_run"
  wtm_at "t_vs"
  wtm_at "t_run"
  refine T.dict0 (by wtm_at "r_ur") ?_
  wtm_at "t_run"
  wtm_at "t_run"
  refine T_split rfl (by wtm_at "om") (by wtm_at "om") fun D1=>?_
  wtm_at "t_run"
  refine T_itemL (.head _) (by decide) (by decide) h0 ?_
  wtm_at "t_vs"
  wtm_at "t_run"
  refine T_split rfl (by wtm_at "om") (by rw [hsp,List.length_cons]; wtm_at "om") fun D2=>?_
  rw [hsp]
  wtm_at "t_run"
  refine T_slcL (.head _) (.tail _ (.head _)) (by unfold txts; rw [List.length_map,List.length_cons]; wtm_at "om") (.int _ _) .none .none (by decide) fun D3=>?_
  rw [show pick (txts (p0::ps)) (some 1) none none = txts ps from pick_from (txts (p0::ps)) 1]
  refine T_iterL (.head _) fun it=>?_
  rename_i N Rr _ _ _ _ _ _ _ _
  refine TC.drop (σ':=(it,itr D3 0)::(D3,.lst (txts ps))::(Rr,.lst [])::(N,dcp prog w [])::(L,.ns _)::([] ++ σ)) ?_ (.cons_cons _ (.cons_cons _ (.cons _ (.cons _ (.cons _ (.cons _ (List.Sublist.refl _)))))))
  refine T_forL (xs:=txts ps) R.hand (fun rr τ=>Ex4 fun m k refs tx=>Al5 (m.lookup (Str.ofString "numbers") = some (.ref N)) (m.lookup (Str.ofString "row") = some (.ref Rr)) (rr = (txts ps).drop k) (prs tx refs ((rowL (Ps.take k)).map atp)) (τ = (D3,.lst (txts ps))::(Rr,.lst refs)::(N,dcp prog w (numD [] (Ps.take k)))::(L,PO.ns m)::(tx ++ σ))) ?w0 ?wn ?wt ?wf
  case w0=>exact ⟨_,0,[],[],rfl,rfl,rfl,.nil,rfl⟩
  case wn=>rintro rr τ ⟨m,k,refs,tx,_,_,_,_,rfl⟩; exact .head _
  case wf =>
    rintro τ ⟨m,k,refs,tx,l1,l2,hr,hp,rfl⟩
    have hk:Ps.length≤k:=by
      rw [txts_drop] at hr
      have:=congrArg List.length hr
      unfold txts at this
      rw [List.length_map,List.length_drop,hP.len,List.length_nil] at this
      wtm_at "om"
    rw [List.take_of_length_le hk] at hp ⊢
    wtm_at "t_run"
    exact ⟨_,.cons_cons _ (.cons _ (.cons_cons _ (.cons_cons _ (.cons _ (List.Sublist.refl _))))),h _ _ _ _ _ hp⟩
  case wt =>
    rintro v rr τ i ⟨m,k,refs,tx,l1,l2,hrr,hx,rfl⟩
    obtain ⟨hlt,hv1,rfl⟩:=drop_cm (f:=fun x:Str=>Value.str x 0) hrr
    have hlP:k < Ps.length:=hP.len ▸ hlt
    obtain ⟨hpo,hpl⟩:=hP.at hlt hlP
    have hN:=numD_take (d:=[]) hlP
    have hR:=rowL_take hlP
    have hNl:=numD_le [] (Ps.take k)
    have hRl:=rowL_le (Ps.take k)
    rw [List.length_take] at hNl hRl
    obtain ⟨t,rfl⟩:=er_str hv1
    generalize ps[k] = p at *
    generalize Ps[k] = P at *
    have hsl:=slice_le' p none (some (-1))
    obtain ⟨name,v,kind,word,e1,e2,e3⟩:=part_two hpo
    have hnl:=(split2_len e1).1
    have hwl:=(split2_len e2).2
    have hkl:=(split2_len e2).1
    refine T.perm (σ':=(L,.ns m)::(it,itr D3 i)::(D3,.lst (txts ps))::(Rr,.lst refs)::(N,dcp prog w (numD [] (Ps.take k)))::(tx ++ σ)) ?_ (List.perm_middle (l₁:=[_,_,_,_]))
    refine T_assignN (T_stL .head (by rfl) (by rfl) ?_)
    refine T.opq fun Q1 hQ1=>?_
    generalize hX:((it,itr D3 i)::(D3,PO.lst (txts ps))::(Rr,PO.lst refs)::(N,dcp prog w (numD [] (Ps.take k)))::(tx ++ σ)) = X
    wtm_at "t_run"
    refine T_AssignS ?_ (by exact rfl) (by exact rfl)
    wtm_at "t_run"
    refine T_slcS (lo:=none) (hi:=some (-1,_)) (.head _) rfl rfl (by wtm_at "om") fun _=>?_
    dsimp only [Option.map_none,Option.map_some]
    wtm_at "t_run"
    refine T_split rfl (by wtm_at "om") (by rw [e1]; exact Nat.le_of_ble_eq_true rfl) fun D4=>?_
    rw [e1]
    refine T_assignAll1 (T_assignUL R.hand (.head _) rfl rfl rfl ?_)
    intro t1
    wtm_at "t_run"
    intro t2
    wtm_at "t_run"
    refine UA_nil ?_
    refine T.drop (σ':=(L,.ns ((Str.ofString "value", .str v 0)::(Str.ofString "name", .str name 0)::(Str.ofString "part", .str p 0)::m))::X) ?_ (.cons _ (.cons _ (List.Sublist.refl _)))
    wtm_at "t_run"
    refine T_AssignS ?_ (by exact rfl) (by exact rfl)
    wtm_at "t_run"
    refine T_split rfl (by wtm_at "om") (by rw [e2]; exact Nat.le_of_ble_eq_true rfl) fun D5=>?_
    rw [e2]
    refine T_assignAll1 (T_assignUL R.hand (.head _) rfl rfl rfl ?_)
    intro t3
    wtm_at "t_run"
    intro t4
    wtm_at "t_run"
    refine UA_nil ?_
    refine T.drop (σ':=(L,.ns ((Str.ofString "word", .str word 0)::(Str.ofString "kind", .str kind 0)::(Str.ofString "value", .str v 0)::(Str.ofString "name", .str name 0)::(Str.ofString "part", .str p 0)::m))::X) ?_ (.cons _ (List.Sublist.refl _))
    wtm_at "t_run"
    refine T_eqS ?_
    wtm_at "t_run"
    subst hX
    rcases e3 with ⟨rfl,n,f1,f2,rfl⟩ | ⟨hne,n,f1,f2,rfl⟩
    · refine ifT (beq_self_eq_true _) ?_
      refine T.perm ?_ (List.perm_middle (l₁:=[_,_,_,_])).symm
      wtm_at "t_run"
      refine T_AssignSub ?_
      wtm_at "t_run"
      refine T_slcS (lo:=some (1,_)) (hi:=none) (.head _) rfl rfl (by wtm_at "om") fun _=>?_
      dsimp only [Option.map_none,Option.map_some]
      wtm_at "t_run"
      refine T_intS f1 f2 fun _=>?_
      wtm_at "t_run"
      refine T_setItemD (by wtm_at "r_ur") (by show (numD [] (Ps.take k)).length≤_; rw [List.length_nil] at hNl; wtm_at "om") ?_
      wtm_at "t_run"
      refine hQ1 _ _ ⟨_,⟨(Str.ofString "word", .str word 0)::(Str.ofString "kind", .str (Str.ofString "xmlns") 0)::(Str.ofString "value", .str v 0)::(Str.ofString "name", .str name 0)::(Str.ofString "part", .str p 0)::m,k + 1,refs,tx,l1,l2,rfl,by rw [hR]; dsimp only [rowOf,Option.toList]; rw [List.append_nil]; exact hx,rfl⟩,?_⟩
      rw [hN]
      exact .cons _ (List.Sublist.refl _)
    · refine ifF (by rw [str_beq]; exact decide_eq_false hne) ?_
      refine T.perm ?_ (List.perm_middle (l₁:=[_,_,_,_])).symm
      wtm_at "t_run"
      refine T_slcS (lo:=some (1,_)) (hi:=none) (.head _) rfl rfl (by wtm_at "om") fun _=>?_
      dsimp only [Option.map_none,Option.map_some]
      wtm_at "t_run"
      refine T_intS f1 f2 fun _=>?_
      wtm_at "t_run"
      rename_i TP
      refine T.perm (σ':=(it,itr D3 i)::(D3,.lst (txts ps))::(Rr,.lst refs)::(N,dcp prog w (numD [] (Ps.take k)))::(L,.ns ((Str.ofString "word", .str word 0)::(Str.ofString "kind", .str kind 0)::(Str.ofString "value", .str v 0)::(Str.ofString "name", .str name 0)::(Str.ofString "part", .str p 0)::m))::(_,.tup [.int n 0,.str word 0])::(_,_)::(tx ++ σ)) ?_ (List.perm_append_comm (l₁:=[_,_]) (l₂:=[_,_,_,_,_]) |>.append_right (tx ++ σ))
      refine T_append (by wtm_at "r_ur") (by rw [hx.len,List.length_map]; wtm_at "om") ?_
      wtm_at "t_run"
      refine hQ1 _ _ ⟨_,⟨(Str.ofString "word", .str word 0)::(Str.ofString "kind", .str kind 0)::(Str.ofString "value", .str v 0)::(Str.ofString "name", .str name 0)::(Str.ofString "part", .str p 0)::m,k + 1,refs ++ [.ref TP],(TP,.tup [.int n 0,.str word 0])::tx,l1,l2,rfl,?_,rfl⟩,?_⟩
      · rw [hR,List.map_append]
        exact (hx.mono fun _ h=>.tail _ h).app (.cons (.head _) .nil)
      · rw [hN]
        exact .cons_cons _ (.cons_cons _ (.cons_cons _ (.cons_cons _ (.cons_cons _ (.cons_cons _ (.cons _ (List.Sublist.refl _)))))))
end
theorem permW {α:Type} (ps pm n1 ns de dl t da x d:α) (r:List α):(ps::pm::n1::ns::de::dl::t::da::x::d::r).Perm (x::d::de::dl::t::pm::da::ns::n1::ps::r):=by
  classical
  refine List.perm_iff_count.mpr fun z=>?_
  simp only [List.count_cons]
  ac_rfl
section
variable {prog:Program} {w:World} {C:Cx} {A:Around} {σ ρ:Led} {E:Value→Led→Prop} {env:Env}
theorem T_CallKw1 {func e:Expr} {rest:List Expr} {name:Str} {value:Expr} {kp pos:Pos} {Q:Value→Led→Prop}
    (h:T prog w C A σ (eval func env) (fun f σ₁=>keepIn C.K f = true∧T prog w C A σ₁ (spliced (backTo pos (starEach (e::rest) env))) (fun vs σ₂=>T prog w C A σ₂ (eval value env) (fun k σ₃=>T prog w C A σ₃ (call f vs [(name,k)]) Q E) E) E) E)
    (he:eval (.Call func (e::rest) [⟨some name,value,kp⟩] pos) env = (do callWith pos (← eval func env) [] (backTo pos (starEach (e::rest) env)) (backToKw pos (keywordEach [⟨some name,value,kp⟩] env))):=by rfl)
    (hp:((backTo pos (starEach (e::rest) env)).any (·.1) || (backToKw pos (keywordEach [⟨some name,value,kp⟩] env)).any (·.1.isNone)) = false:=by rfl) (hs:starEach (e::rest) env = (false,eval e env)::starEach rest env:=by rfl) :
    T prog w C A σ (eval (.Call func (e::rest) [⟨some name,value,kp⟩] pos) env) Q E:=fun s S=>by
  rw [he]
  refine wpAny_bind (h.k S fun f σ₁ s₁ h₁ S₁=>?_)
  obtain ⟨hk,h₁⟩:=h₁
  refine callWith_KW S₁.kin hk rfl (h₁.k S₁ fun vs σ₂ s₂ h₂ S₂=>kwAll_cons (h₂.k S₂ fun k σ₃ s₃ h₃ S₃=>kwAll_nil ⟨S₃.kin,?_⟩)) hp hs
  exact h₃ _ S₃
theorem T_newWriter1 {wa:Addr} {Q:Value→Led→Prop} (hK:C.K = KK w.params) (R:Rm 4 A)
    (hQ:∀ x d da dl de ns n1 pm ps tt,Q (.ref x) ((x,.ins 199 d)::(d,.idc (wrF1 wa da de ns pm ps false false))::(de,.lst [.ref dl])::(dl,.lst [.ref tt])::(tt,.tup [.str xmlU 0,.str xmlP 0])::(pm,dcp prog w [])::(da,.lst [])::(ns,.lst [.ref n1])::(n1,.lst [])::(ps,.lst [.bool false])::ρ)) :
    T prog w C A ρ (call (.ref 199) [.ref wa] [(Str.ofString "rewrite_prefixes", .bool true)]) Q E :=
  T.wk (T_newWr1 hK R fun x d da dl de ns n1 pm ps t=>⟨_,fun s' S'=>(Wk.upd (C:=C) (a:=pm) (.tail .head) (fun o ho=>by rw [show o = emptyDict from ho]; exact dco_empty) s' S').perm (permW _ _ _ _ _ _ _ _ _ _ ρ),hQ x d da dl de ns n1 pm ps t⟩)
end
theorem Upd.symm {a:Addr} {p p':PO} {τ τ':Led} (U:Upd a p p' τ τ'):Upd a p' p τ' τ:=by
  induction U with
  | head=>exact .head
  | tail _ ih=>exact .tail ih
noncomputable def wholeD (p:Str × Nat):Str:=Str.ofString " xmlns:n" ++ Str.ofString (toString (p.2:Int)) ++ Str.ofString "=\"" ++ p.1 ++ Str.ofString "\""
noncomputable def wholeR (us:List Str) (q:Nat × Str):Str:=Str.ofString " n" ++ Str.ofString (toString (q.1:Int)) ++ Str.ofString ":" ++ q.2 ++ Str.ofString "=\"" ++ us.getD q.1 Str.empty ++ Str.ofString "\""
noncomputable def kvD (ds:List (Str × Nat)):List (Str × Value):=ds.map fun p=>(p.1,.int p.2 0)
noncomputable def rwQ (qs:List (Nat × Str)):List (At × At):=qs.map fun q=>(.i q.1,.s q.2)
noncomputable def wholeT (ds:List (Str × Nat)) (qs:List (Nat × Str)):Str:=Str.ofString "<n0:robots" ++ Builtin.Str.glued (Str.ofString "") (ds.map wholeD ++ qs.map (wholeR (ds.map (·.1)))) ++ Str.ofString "></n0:robots>"
theorem kv_at {ds:List (Str × Nat)} {k:Nat} {p:Value × Value} {r:List (Value × Value)} (h:p::r = ((kvD ds).map fun p=>((.str p.1 0,p.2):Value × Value)).drop k):∃ hlt:k < ds.length,p = (.str ds[k].1 0,.int ds[k].2 0)∧r = ((kvD ds).map fun p=>((.str p.1 0,p.2):Value × Value)).drop (k + 1):=by
  unfold kvD at h ⊢
  rw [List.map_map] at h ⊢
  exact drop_cm h
theorem rw_at {qs:List (Nat × Str)} {k:Nat} {p:Value × Value} {r:List (Value × Value)} (h:p::r = ((rwQ qs).map atp).drop k):∃ hlt:k < qs.length,p = (.int qs[k].1 0,.str qs[k].2 0)∧r = ((rwQ qs).map atp).drop (k + 1):=by
  unfold rwQ at h ⊢
  rw [List.map_map] at h ⊢
  exact drop_cm h
theorem int_len (i:Nat) (h:i < 1000):(Str.ofString (toString (i:Int))).length≤3:=by
  have : ∀ i:Nat,i < 1000→(Str.ofString (toString (i:Int))).length≤3:=by decide +kernel
  exact this i h
theorem kvD_map {ds:List (Str × Nat)}:(kvD ds).map (fun p=>((.str p.1 0,p.2):Value × Value)) = ds.map fun q=>(.str q.1 0,.int q.2 0):=by unfold kvD; rw [List.map_map]; rfl
theorem rwQ_map {qs:List (Nat × Str)}:(rwQ qs).map atp = qs.map fun q=>(.int q.1 0,.str q.2 0):=by unfold rwQ; rw [List.map_map]; rfl
theorem wholeD_len {p:Str × Nat} (h1:p.1.length≤1000) (h2:p.2 < 1000):(wholeD p).length≤1014:=by
  exact sl (sl (sl (sl (Nat.le_refl _) (int_len p.2 h2) (c:=11) rfl) (Nat.le_refl _) (c:=13) rfl) h1 (c:=1013) rfl) (Nat.le_refl _) rfl
theorem wholeR_len {us:List Str} {q:Nat × Str} (hu:∀ u∈us,u.length≤1000) (hq:q.1 < us.length) (h1:q.2.length≤1000) (h2:q.1 < 1000):(wholeR us q).length≤2010:=by
  have h3:=hu _ (List.getElem_mem hq)
  unfold wholeR
  rw [List.getD_eq_getElem?_getD,List.getElem?_eq_getElem hq,Option.getD_some]
  exact sl (sl (sl (sl (sl (sl (Nat.le_refl _) (int_len q.1 h2) (c:=5) rfl) (Nat.le_refl _) (c:=6) rfl) h1 (c:=1006) rfl) (Nat.le_refl _) (c:=1008) rfl) h3 (c:=2008) rfl) (Nat.le_refl _) rfl
section
variable {prog:Program} {w:World} {C:Cx} {A:Around} {σ:Led} {E:Value→Led→Prop} {env:Env} {d l:Addr}
theorem T_whole {Q:Value→Led→Prop} {ds:List (Str × Nat)} {qs:List (Nat × Str)} {vs:List Value} (hK:C.K = KK w.params) (R:Rm 4 A) (hd:(d,dcp prog w (kvD ds))∈σ) (hl:(l,.lst vs)∈σ) (hp:prs σ vs ((rwQ qs).map atp))
    (h1:∀ p∈ds,p.1.length≤1000∧p.2 < 1000) (h2:∀ q∈qs,q.1 < ds.length∧q.2.length≤1000) (hn:ds.length≤100) (hm:qs.length≤100) (h:∀ t,Q (.str (wholeT ds qs) t) σ) :
    T prog w C A σ (call (.ref 241) [.ref d,.ref l]) Q E:=by
  refine T_callTC ?_
  refine' T_callG (m:=[(Str.ofString "row", .ref l),(Str.ofString "numbers", .ref d)]) (binds:=[(Str.ofString "numbers", .ref d),(Str.ofString "row", .ref l)])
    (fun L=>[(Str.ofString "values", L + 1)]) (fun L=>[(L + 1,.cel none)]) R.room (ho:=?ho) (hcd:=?hcd) (hbind:=?hb) (hloc:=?hloc) (hm:=?hm) (hcells:=?hc1) (hcv:=?hc2) (hnd:=?hc3) (hnd2:=?hc4) (h:=?h) (hco:=?hco) (hgen:=?hgen) (hk:=?hk)
  case ho=>rw [hK]; exact lookup_KK rfl rfl
  case hcd=>wtm_at "r_k"
  case hb=>exact fun s X=>kp_binds (K:=KK w.params) (hK ▸ X) fun S=>by kernel_rfl
  case hloc=>kernel_rfl
  case hm=>exact rfl
  case hco=>rfl
  case hgen=>rfl
  case hk=>rfl
  case hc1=>exact fun L=>rfl
  case hc2=>exact fun L=>rfl
  case hc3=>decide
  case hc4=>exact fun L=>rfl
  intro L
  dsimp only [List.cons_append,List.nil_append]
  wtm_at "t_run"
  refine T_listD (by wtm_at "r_mem") R.hand (by unfold kvD; rw [List.length_map]; wtm_at "om") fun V=>?_
  wtm_at "t_run"
  wtm_at "t_lcg"
  wtm_at "t_run"
  refine T_gmItems (by wtm_at "r_mem") ?_
  wtm_at "t_run"
  refine T_items (by wtm_at "r_mem") fun V2=>?_
  refine T_iterItems (.head _) (by wtm_at "r_mem") fun it ep σ' U=>?_
  have hkn:(kvD ds).length = ds.length:=by unfold kvD; rw [List.length_map]
  refine' T_compM (po:=fun i=>[(it,itm d i (kvD ds).length ep)]) ds (fun q=>(.str q.1 0,.int q.2 0)) (fun q=>some (.str (wholeD q) 0)) (by rw [← kvD_map]; exact drwD R.hand) R.hand U.symm.mem (Nat.le_trans hn (Nat.le_of_ble_eq_true rfl)) ?v1 ?v2 ?v3 ?v4 ?ut ?uf (fun q τ h=>.tail _ h)
  case v1=>rfl
  case v2=>rfl
  case v3=>rfl
  case v4=>decide
  case ut =>
    intro σ₀ L' m q hq hm hτ
    obtain ⟨g1,g2⟩:=h1 _ hq
    clear h1 h2 hp h hl hd hτ U
    refine T_t0 ?_
    refine T.opq fun Q1 hQ1=>?_
    have e1:(Str.ofString " xmlns:n").length≤8:=Nat.le_refl _
    have w1:=sl e1 (int_len _ g2) (c:=11) rfl
    have w2:=sl w1 (Nat.le_refl (Str.ofString "=\"").length) (c:=13) rfl
    have w3:=sl w2 g1 (c:=1013) rfl
    dsimp only [er] at hm
    wtm_at "t_run"
    refine T_strI (Nat.lt_trans g2 (Nat.le_of_ble_eq_true rfl)) fun _=>?_
    refine T_addS (sa e1 (int_len _ g2) rfl) fun _=>?_
    wtm_at "t_run"
    refine T_addS (sa w1 (Nat.le_refl _) rfl) fun _=>?_
    wtm_at "t_run"
    refine T_addS (sa w2 g1 rfl) fun _=>?_
    wtm_at "t_run"
    refine T_addS (sa w3 (Nat.le_refl _) rfl) fun _=>?_
    exact hQ1 _ _ ⟨rfl,List.Sublist.refl _⟩
  case uf =>
    rw [fmT]
    intro L' D' m'
    refine T.weakU (.tail (.tail U.symm)) (fun o=>dceo_dco) ?_
    wtm_at "t_run"
    refine ⟨m',(D',.lst (txts (ds.map wholeD)))::(V,.lst (txts ((kvD ds).map (·.1))))::(L,.ns [(Str.ofString "declared", .ref D'),(Str.ofString "row", .ref l),(Str.ofString "numbers", .ref d)])::(L + 1,.cel (some (.ref V)))::σ,.cons_cons _ (.cons_cons _ (.cons _ (List.Sublist.refl _))),?_⟩
    wtm_at "t_run"
    wtm_at "t_lcg"
    wtm_at "t_run"
    refine T_iterL (by wtm_at "r_mem") fun it2=>?_
    have hkl:((kvD ds).map (·.1)) = ds.map (·.1):=by unfold kvD; rw [List.map_map]; rfl
    have hus:∀ u∈ds.map (·.1),u.length≤1000:=fun u hu=>by obtain ⟨p,hp,rfl⟩:=List.mem_map.mp hu; exact (h1 p hp).1
    rw [hkl]
    refine' T_compM (need:=fun τ=>(l,PO.lst vs)∈τ∧prs τ vs ((rwQ qs).map atp)) (po:=fun i=>[(it2,itr l i)]) qs (fun q=>(.int q.1 0,.str q.2 0)) (fun q=>some (.str (wholeR (ds.map (·.1)) q) 0)) (by rw [← rwQ_map]; exact drwL (l:=l) (vs:=vs) R.hand) R.hand ?un (Nat.le_trans hm (Nat.le_of_ble_eq_true rfl)) ?v1 ?v2 ?v3 ?v4 ?ut ?uf (fun q τ h=>⟨.tail _ h.1,h.2.mono fun _=>.tail _⟩)
    case v1=>rfl
    case v2=>rfl
    case v3=>rfl
    case v4=>decide
    case un=>exact ⟨by wtm_at "r_mem", hp.mono fun _ h=>.tail _ (.tail _ (.tail _ (.tail _ h)))⟩
    case ut =>
      intro σ₀ L2 m q hq hm hτ
      obtain ⟨g1,g2⟩:=h2 _ hq
      have hV:=hτ _ (.tail _ (.head _))
      have hC:=hτ _ (.tail _ (.tail _ (.tail _ (.head _))))
      have g3:(ds.map (·.1))[q.1]? = some ((ds.map (·.1)).getD q.1 Str.empty):=by
        rw [List.getD_eq_getElem?_getD,List.getElem?_eq_getElem (by rw [List.length_map]; exact g1),Option.getD_some]
      have g4:=hus _ (List.mem_of_getElem? g3)
      have g5:=int_len q.1 (Nat.lt_of_lt_of_le g1 (Nat.le_trans hn (Nat.le_of_ble_eq_true rfl)))
      have g6:q.1 < 1000000:=Nat.lt_of_lt_of_le g1 (Nat.le_trans hn (Nat.le_of_ble_eq_true rfl))
      clear h1 h2 hp h hl hd hτ U hus hkl hkn hn g1 hq
      unfold wholeR
      generalize ds.map (·.1) = us at *
      generalize us.getD q.1 Str.empty = u at *
      refine T_t0 ?_
      refine T.opq fun Q1 hQ1=>?_
      have e1:(Str.ofString " n").length≤2:=Nat.le_refl _
      have w1:=sl e1 g5 (c:=5) rfl
      have w2:=sl w1 (Nat.le_refl (Str.ofString ":").length) (c:=6) rfl
      have w3:=sl w2 g2 (c:=1006) rfl
      have w4:=sl w3 (Nat.le_refl (Str.ofString "=\"").length) (c:=1008) rfl
      have w5:=sl w4 g4 (c:=2008) rfl
      dsimp only [er] at hm
      wtm_at "t_run"
      refine T_strI g6 fun _=>?_
      refine T_addS (sa e1 g5 rfl) fun _=>?_
      wtm_at "t_run"
      refine T_addS (sa w1 (Nat.le_refl _) rfl) fun _=>?_
      wtm_at "t_run"
      refine T_addS (sa w2 g2 rfl) fun _=>?_
      wtm_at "t_run"
      refine T_addS (sa w3 (Nat.le_refl _) rfl) fun _=>?_
      wtm_at "t_run"
      refine T_itemL (pv:=.str u 0) hV (Int.natCast_nonneg _) (Int.ofNat_lt.mpr (Nat.lt_trans g6 (Nat.le_of_ble_eq_true rfl))) (by unfold txts; rw [List.getElem?_map,Int.toNat_natCast,g3]; rfl) ?_
      wtm_at "t_vs"
      intro _
      refine T_addS (sa w4 g4 rfl) fun _=>?_
      wtm_at "t_run"
      refine T_addS (sa w5 (Nat.le_refl _) rfl) fun _=>?_
      exact hQ1 _ _ ⟨rfl,List.Sublist.refl _⟩
    case uf =>
      rw [fmT]
      intro L2 D2 m2
      wtm_at "t_run"
      refine ⟨m2,_,.cons_cons _ (List.Sublist.refl _),?_⟩
      wtm_at "t_run"
      have hus:∀ u∈ds.map (·.1),u.length≤1000:=fun u hu=>by obtain ⟨p,hp,rfl⟩:=List.mem_map.mp hu; exact (h1 p hp).1
      have hB:∀ y∈ds.map wholeD ++ qs.map (wholeR (ds.map (·.1))),y.length≤2010:=fun y hy=>by
        rcases List.mem_append.mp hy with hy | hy
        · obtain ⟨p,hp,rfl⟩:=List.mem_map.mp hy
          exact Nat.le_trans (wholeD_len (h1 p hp).1 (h1 p hp).2) (by decide)
        · obtain ⟨q,hq,rfl⟩:=List.mem_map.mp hy
          exact wholeR_len hus (by rw [List.length_map]; exact (h2 q hq).1) (h2 q hq).2 (by have:=(h2 q hq).1; wtm_at "om")
      have hS:=StrLaws.sumLen_le _ hB
      rw [List.length_append,List.length_map,List.length_map] at hS
      have hS2:((ds.map wholeD ++ qs.map (wholeR (ds.map (·.1)))).map (·.length)).sum≤200 * 2010:=Nat.le_trans hS (Nat.mul_le_mul_right _ (by wtm_at "om"))
      have hg:(Builtin.Str.glued (Str.ofString "") (ds.map wholeD ++ qs.map (wholeR (ds.map (·.1))))).length≤402000:=by
        rw [size_glued]
        show _ + _ * 0≤_
        wtm_at "om"
      unfold wholeT at h
      refine' T_addL (xs:=txts (ds.map wholeD)) (ys:=txts (qs.map (wholeR (ds.map (·.1))))) ?x1 ?x2 ?x3 ?x4
      case x1=>wtm_at "r_mem"
      case x2=>exact .head _
      case x3=>unfold txts; rw [List.length_map,List.length_map,List.length_map,List.length_map]; wtm_at "om"
      intro D3
      rw [show txts (ds.map wholeD) ++ txts (qs.map (wholeR (ds.map (·.1)))) = txts (ds.map wholeD ++ qs.map (wholeR (ds.map (·.1)))) by unfold txts; rw [List.map_append]]
      wtm_at "t_run"
      refine T_join (xs:=ds.map wholeD ++ qs.map (wholeR (ds.map (·.1)))) (.head _) (by rw [foldl_len]; wtm_at "om") (by wtm_at "om") fun _=>?_
      have e5:(Str.ofString "<n0:robots").length = 10:=rfl
      have e6:(Str.ofString "></n0:robots>").length = 13:=rfl
      generalize Builtin.Str.glued (Str.ofString "") (ds.map wholeD ++ qs.map (wholeR (ds.map (·.1)))) = gl at *
      refine T_addS (by rw [e5]; wtm_at "om") fun _=>?_
      wtm_at "t_run"
      refine T_addS (by rw [Str.length_append,e5,e6]; wtm_at "om") fun _=>?_
      refine ⟨_,?_,h _⟩
      iterate 6 apply List.Sublist.cons
      exact List.Sublist.refl _
end
noncomputable def lawDef:List Stmt × Scope:=match PySem.Challenge.pw_rs0229_01.main.body.getLast? with
  | some (.FunctionDef _ _ body _ _ _ scope _ _ _)=>(body,scope)
  | _=>([],default)
noncomputable abbrev lawB:List Stmt:=lawDef.1
noncomputable abbrev lawCells (L:Addr):List (Str × Addr):=[(Str.ofString "own", L + 1 + 1 + 1),(Str.ofString "numbers", L + 1 + 1),(Str.ofString "number", L + 1)]
noncomputable abbrev lawEnv (L:Addr):Env:=envX (Str.ofString "law") lawDef.2 L 246 (.ref 245) (lawCells L)
noncomputable def turnDef:List Stmt:=match lawB with
  | _::.For _ _ b _ _::_=>b
  | _=>[]
noncomputable def turnA:List Stmt:=match turnDef with
  | a::b::c::d::e::f::_=>[a,b,c,d,e,f]
  | _=>[]
noncomputable def turnR:List Stmt:=match turnDef with
  | _::_::_::_::_::_::r=>r
  | _=>[]
noncomputable def sgN (d:Nat):Nat:=if d % 4 = 0 then 97 else if d % 4 = 1 then 38 else if d % 4 = 2 then 34 else 60
noncomputable def sgS (d:Nat):Str:=⟨#[sgN d]⟩
noncomputable def adrOf (as:List Str) (n:Nat):Str:=as.getD (n / 10 % 10 % as.length) Str.empty ++ Txt.slice (sgS (n / 1000 % 10) ++ sgS (n / 10000 % 10)) none (some ((n / 100 % 10 % 3:Nat):Int))
noncomputable def wordA:Str:=Str.ofString "Address"
noncomputable def wordR (b:Bool):Str:=if b then Str.ofString "Allow" else Str.ofString "Disallow"
noncomputable def stride6 (is:List Int) (i:Nat):List Int:=pickG is (some i) none (some 6)
theorem pick_stride6 (is:List Int) (i:Nat):pick (intL is) (some (i:Int)) none (some 6) = intL (stride6 is i):=pick_map ..
theorem fmod5_ex (z:Int):∃ n:Nat,n < 10 ^ 5∧z.fmod (10 ^ 5) = n:=by
  have h1:=Int.fmod_nonneg_of_pos z (b:=10 ^ 5) (by decide)
  have h2:=Int.fmod_lt_of_pos z (b:=10 ^ 5) (by decide)
  exact ⟨(z.fmod (10 ^ 5)).toNat,by wtm_at "om", by wtm_at "om"⟩
noncomputable def numOf (is:List Int) (i:Nat) (f:Int):Nat:=((f + (stride6 is i).sum).fmod (10 ^ 5)).toNat
theorem numOf_eq (is:List Int) (i:Nat) (f:Int):(f + (stride6 is i).sum).fmod (10 ^ 5) = (numOf is i f:Int)∧numOf is i f < 10 ^ 5:=by
  obtain ⟨n,h1,h2⟩:=fmod5_ex (f + (stride6 is i).sum)
  unfold numOf
  rw [h2]
  exact ⟨rfl,h1⟩
theorem sg_at (d:Nat):(seqIndex? ((d % 4:Nat):Int) (Str.ofString "a&\"<").length).bind ((Str.ofString "a&\"<").cps[·]?) = some (sgN d):=by
  have : ∀ k:Nat,k < 4→(seqIndex? ((k % 4:Nat):Int) (Str.ofString "a&\"<").length).bind ((Str.ofString "a&\"<").cps[·]?) = some (sgN k):=by decide +kernel
  have h:=this (d % 4) (Nat.mod_lt _ (by decide))
  rw [Nat.mod_mod] at h
  rw [h]
  unfold sgN
  rw [Nat.mod_mod]
theorem lk_ne {k x:Str} {v:Value} {m:List (Str × Value)} (h:x ≠ k):((k,v)::m).lookup x = m.lookup x:=by
  rw [List.lookup_cons,beq_false_of_ne h]
theorem fmodN (a b:Nat):(a:Int).fmod b = ((a % b:Nat):Int):=by rw [Int.fmod_eq_emod_of_nonneg _ (Int.natCast_nonneg b),← Int.natCast_emod]
theorem execs_split (a b:List Stmt) (env:Env):execs (a ++ b) env = (execs a env >>= fun f=>match f with | .next=>execs b env | f=>Pure.pure f):=by
  induction a with
  | nil=>rfl
  | cons c a ih =>
    show (exec c env >>= fun f=>match f with | .next=>execs (a ++ b) env | f=>Pure.pure f) = ((exec c env >>= fun f=>match f with | .next=>execs a env | f=>Pure.pure f) >>= _)
    rw [bind_assoc]
    congr 1
    funext f
    cases f with
    | next=>exact ih
    | _=>rfl
theorem split_execs {prog:Program} {w:World} {C:Cx} {A:Around} {σ:Led} {s:Shared} {env:Env} {P:Led→Prop} {Q:Flow→Shared→Prop} {E:Value→Shared→Prop} {a b:List Stmt}
    (h:T prog w C A σ (execs a env) (fun f σ'=>f = .next∧P σ') NoE) (S:Sat C σ s) (hb:∀ σ' s',P σ'→Sat C σ' s'→wpAny (model prog w) A (execs b env) Q E s'):wpAny (model prog w) A (execs (a ++ b) env) Q E s:=by
  rw [execs_split]
  refine wpAny_bind (h.kN S fun f σ' s' hq S'=>?_)
  obtain ⟨rfl,hp⟩:=hq
  exact hb σ' s' hp S'
section
variable {prog:Program} {w:World} {C:Cx} {A:Around} {σ ρ:Led} {E:Value→Led→Prop} {sl L:Addr} {is:List Int} {its:Array Value}
theorem law_t1 {m:List (Str × Value)} {i:Nat} {f:Int} {num:Option Value} {la ln:Addr} {as:List Str} {vs:List Value} (hK:C.K = KK w.params) (R:Rm 40 A) (hO:C.h₀.IsList sl its) (hx:its.toList.map er = intL is) (hz:is.length≤63)
    (l1:m.lookup (Str.ofString "script") = some (.ref sl)) (l2:m.lookup (Str.ofString "place") = some (.int i 0)) (l3:m.lookup (Str.ofString "first") = some (.int f 0)) (l4:m.lookup (Str.ofString "addresses") = some (.ref la)) (l5:m.lookup (Str.ofString "names") = some (.ref ln))
    (ha:∀ a∈as,a.length≤100) (h1:as ≠ []) (h2:as.length≤100) (h3:vs.length≤100) {Q:Flow→Led→Prop}
    (h:∀ m' tt D o,m'.lookup (Str.ofString "address") = some (.str (adrOf as (numOf is i f)) 0)→m'.lookup (Str.ofString "verdict") = some (.int (numOf is i f % 10:Nat) 0)→(∀ x,x ∉ [Str.ofString "address", Str.ofString "signs", Str.ofString "two", Str.ofString "one", Str.ofString "more", Str.ofString "whose", Str.ofString "verdict"]→m'.lookup x = m.lookup x) →
      Q .next ((tt,.tup [.str (adrOf as (numOf is i f)) 0,.str wordA 0])::(D,.raw o)::(L,.ns m')::(la,.lst (txts (as ++ [adrOf as (numOf is i f)])))::(ln,.lst (vs ++ [.ref tt]))::(L + 1,.cel (some (.int (numOf is i f) 0)))::ρ)) :
    T prog w C A ((L,.ns m)::(la,.lst (txts as))::(ln,.lst vs)::(L + 1,.cel num)::ρ) (execs turnA (lawEnv L)) Q NoE:=by
  refine T_cons ?_
  wtm_at "t_run"
  refine T_slcO (.head _) hO hx (by rw [intL,List.length_map]; wtm_at "om") (.int _ _) .none (.int _ _) (by decide) fun D2=>?_
  rw [pick_stride6]
  wtm_at "t_run"
  refine T_sum (xs:=stride6 is i) R.hand (.head _) fun _=>?_
  wtm_at "t_run"
  refine T_powI (by decide) (by decide +kernel) fun _=>?_
  refine T_modI (by decide) fun _=>?_
  obtain ⟨hN,hN5⟩:=numOf_eq is i f
  change T _ _ _ _ _ (storeName _ _ (Value.int ((f + (stride6 is i).sum).fmod (10 ^ 5)) _)) _ _
  rw [hN]
  generalize hn:numOf is i f = n at *
  wtm_at "t_run"
  refine T.drop (σ':=(L,.ns m)::(la,.lst (txts as))::(ln,.lst vs)::(L + 1,.cel (some (.int n 0)))::ρ) ?_ (.cons _ (.cons _ (List.Sublist.refl _)))
  wtm_at "t_run"
  refine T_AssignS ?_ (by exact rfl) (by exact rfl)
  wtm_at "t_lc"
  wtm_at "t_run"
  refine T_range rfl fun r=>?_
  wtm_at "t_run"
  refine T_iterR (.head _) (by decide) fun it=>?_
  refine T_comp1 (List.range 5) (fun i=>.int (0 + 1 * (i:Int)) 0) (fun k=>some (.int (n / 10 ^ k % 10:Nat) 0)) (itsR R.hand) trivial (by rw [List.length_range]; wtm_at "om") rfl rfl (by decide) ?_ ?_ (fun _ _ _=>trivial)
  · intro σ₀ L2 m k hk hm hτ
    have hk6:k < 5:=List.mem_range.mp hk
    have hN:=hτ _ (.tail _ (.tail _ (.tail _ (.tail _ (.head _)))))
    clear hτ h l1 l2 l3 l4 l5 ha h1 h2 h3 hx hO hz hk
    wtm_at "t_run"
    refine T_powI (by wtm_at "om") (by rw [show Builtin.Int.intBits 10 = 4 by decide +kernel]; wtm_at "om") fun _=>?_
    have e1:(10:Int) ^ ((0 + 1 * (k:Int)).toNat) = ((10 ^ k:Nat):Int):=by
      rw [show (0 + 1 * (k:Int)).toNat = k by wtm_at "om"]; simp
    rw [e1]
    have e10:(0:Int) < ((10 ^ k:Nat):Int):=Int.natCast_pos.mpr (Nat.pow_pos (by decide))
    refine T_divI (by wtm_at "om") (divp (by wtm_at "om") _) fun _=>?_
    rw [Int.fdiv_eq_ediv_of_nonneg _ (Int.le_of_lt e10),← Int.natCast_ediv]
    wtm_at "t_run"
    refine T_modI (by decide) fun _=>?_
    rw [Int.fmod_eq_emod_of_nonneg _ (by decide),show (10:Int) = ((10:Nat):Int) from rfl,← Int.natCast_emod]
    exact ⟨rfl,List.Sublist.refl _⟩
  intro D
  rw [show (List.range 5).filterMap (fun k=>some (Value.int (n / 10 ^ k % 10:Nat) 0)) = [.int (n % 10:Nat) 0,.int (n / 10 % 10:Nat) 0,.int (n / 100 % 10:Nat) 0,.int (n / 1000 % 10:Nat) 0,.int (n / 10000 % 10:Nat) 0] by rw [show List.range 5 = [0,1,2,3,4] from rfl]; simp]
  refine T_assignAll1 (T_assignUL R.hand (.head _) rfl rfl rfl ?_)
  intro t1
  wtm_at "t_run"
  intro t2
  wtm_at "t_run"
  intro t3
  wtm_at "t_run"
  intro t4
  wtm_at "t_run"
  intro t5
  wtm_at "t_run"
  refine UA_nil ?_
  have f1:((n / 1000 % 10:Nat):Int).fmod 4 = ((n / 1000 % 10 % 4:Nat):Int):=fmodN _ 4
  have f2:((n / 10000 % 10:Nat):Int).fmod 4 = ((n / 10000 % 10 % 4:Nat):Int):=fmodN _ 4
  have f3:((n / 10 % 10:Nat):Int).fmod as.length = ((n / 10 % 10 % as.length:Nat):Int):=fmodN _ as.length
  have f4:((n / 100 % 10:Nat):Int).fmod 3 = ((n / 100 % 10 % 3:Nat):Int):=fmodN _ 3
  have f5:=sg_at (n / 1000 % 10)
  have f6:=sg_at (n / 10000 % 10)
  have hap:0 < as.length:=List.length_pos_iff.mpr h1
  have f7:n / 10 % 10 % as.length < as.length:=Nat.mod_lt _ hap
  have f8:n / 100 % 10 % 3 < 3:=Nat.mod_lt _ (by decide)
  have f9:n / 1000 % 10 % 4 < 4:=Nat.mod_lt _ (by decide)
  have f0:n / 10000 % 10 % 4 < 4:=Nat.mod_lt _ (by decide)
  unfold adrOf at h
  rw [List.getD_eq_getElem?_getD,List.getElem?_eq_getElem f7,Option.getD_some] at h
  have hlA:=ha _ (List.getElem_mem f7)
  unfold sgS at h
  generalize n / 1000 % 10 = one at *
  generalize n / 10000 % 10 = two at *
  generalize n / 10 % 10 = whose at *
  generalize n / 100 % 10 = more at *
  generalize n % 10 = verd at *
  refine T.drop (σ':=(L,.ns ((Str.ofString "two", .int two 0)::(Str.ofString "one", .int one 0)::(Str.ofString "more", .int more 0)::(Str.ofString "whose", .int whose 0)::(Str.ofString "verdict", .int verd 0)::m))::(la,.lst (txts as))::(ln,.lst vs)::(L + 1,.cel (some (.int n 0)))::ρ) ?_ (.cons _ (.cons _ (List.Sublist.refl _)))
  wtm_at "t_run"
  refine T_modI (by decide) fun _=>?_
  rw [f1]
  refine T_itemS (by wtm_at "om") (by wtm_at "om") f5 fun _=>?_
  wtm_at "t_run"
  refine T_modI (by decide) fun _=>?_
  rw [f2]
  refine T_itemS (by wtm_at "om") (by wtm_at "om") f6 fun _=>?_
  refine T_addS (by exact Nat.le_of_ble_eq_true rfl) fun _=>?_
  wtm_at "t_run"
  have hta:(txts as).length = as.length:=List.length_map ..
  refine T_lenL (.tail _ (.head _)) (by wtm_at "om") fun _=>?_
  rw [hta]
  refine T_modI (by wtm_at "om") fun _=>?_
  rw [f3]
  refine T_itemL (pv:=.str as[whose % as.length] 0) (.tail _ (.head _)) (by wtm_at "om") (by wtm_at "om") (by unfold txts; rw [List.getElem?_map,Int.toNat_natCast,List.getElem?_eq_getElem f7]; rfl) ?_
  wtm_at "t_vs"
  wtm_at "t_run"
  refine T_modI (by decide) fun _=>?_
  rw [f4]
  wtm_at "t_run"
  generalize hsg:({ cps:=#[sgN one] } ++ { cps:=#[sgN two] }:Str) = sg at *
  have hsl:sg.length = 2:=by rw [← hsg]; rfl
  have hsl2:=slice_le' sg none (some ((more % 3:Nat):Int))
  refine T_slcS (lo:=none) (hi:=some (((more % 3:Nat):Int),_)) (.head _) rfl rfl (by wtm_at "om") fun _=>?_
  dsimp only [Option.map_none,Option.map_some]
  refine T_addS (by wtm_at "om") fun _=>?_
  generalize hads:as[whose % as.length] ++ Txt.slice sg none (some ((more % 3:Nat):Int)) = ad at *
  wtm_at "t_run"
  have hap2:txts (as ++ [ad]) = txts as ++ [.str ad 0]:=by unfold txts; rw [List.map_append]; rfl
  rw [hap2] at h
  refine h ((Str.ofString "address", .str ad 0)::(Str.ofString "signs", .str sg 0)::(Str.ofString "two", .int two 0)::(Str.ofString "one", .int one 0)::(Str.ofString "more", .int more 0)::(Str.ofString "whose", .int whose 0)::(Str.ofString "verdict", .int verd 0)::m) _ _ _ rfl rfl fun x hx=>?_
  simp only [List.mem_cons,List.not_mem_nil,or_false,not_or] at hx
  obtain ⟨x1,x2,x3,x4,x5,x6,x7⟩:=hx
  rw [lk_ne x1,lk_ne x2,lk_ne x3,lk_ne x4,lk_ne x5,lk_ne x6,lk_ne x7]
end
section
variable {prog:Program} {w:World} {C:Cx} {A:Around} {s:Shared} {ρ:Led} {L:Addr}
noncomputable def tled (L ln rc kc lh lm ec dc uc:Addr) (m:List (Str × Value)) (vs vc hl ml:List Value) (zc:List Int) (ρ:Led):Led :=
  (L,.ns m)::(ln,.lst vs)::(rc,.lst vc)::(kc,.lst (intL zc))::(lh,.lst hl)::(lm,.lst ml)::(ec,.ins 76 dc)::(dc,.idc (entryF uc rc))::ρ
theorem tled_perm {L ln rc kc lh lm ec dc uc:Addr} {m:List (Str × Value)} {vs vc hl ml:List Value} {zc:List Int} {x y:Addr × PO}:(x::y::tled L ln rc kc lh lm ec dc uc m vs vc hl ml zc ρ).Perm (y::tled L ln rc kc lh lm ec dc uc m vs vc hl ml zc (x::ρ)):=by
  unfold tled
  exact (List.Perm.swap _ _ _).trans (List.Perm.cons _ (List.perm_middle (l₁:=[_,_,_,_,_,_,_,_]) (l₂:=ρ)).symm)
theorem tled_app {L ln rc kc lh lm ec dc uc:Addr} {m:List (Str × Value)} {vs vc hl ml:List Value} {zc:List Int} (l ρ:Led):(l ++ tled L ln rc kc lh lm ec dc uc m vs vc hl ml zc ρ).Perm (tled L ln rc kc lh lm ec dc uc m vs vc hl ml zc (l ++ ρ)) :=
  List.perm_append_comm_assoc l [_,_,_,_,_,_,_,_] ρ
theorem law_t2 {m:List (Str × Value)} {i v:Nat} {lh lm ln rc kc ec dc uc:Addr} {vs vc hl ml:List Value} {zc:List Int} {ad:Str} {Q:Flow→Shared→Prop} (hK:C.K = KK w.params) (hL:lam02∈C.lams) (R:Rm 40 A)
    (l1:m.lookup (Str.ofString "place") = some (.int i 0)) (l2:m.lookup (Str.ofString "verdict") = some (.int v 0)) (l3:m.lookup (Str.ofString "address") = some (.str ad 0)) (l4:m.lookup (Str.ofString "names") = some (.ref ln)) (l5:m.lookup (Str.ofString "halves") = some (.ref lh)) (l6:m.lookup (Str.ofString "marks") = some (.ref lm))
    (hE:hl[i % 2]? = some (.ref ec)) (hM:ml[i % 2]? = some (.ref kc)) (hv:vs.length≤100) (hvc:vc.length≤100) (hzc:zc.length≤100) (hal:ad.length≤20)
    (S:Sat C (tled L ln rc kc lh lm ec dc uc m vs vc hl ml zc ρ) s)
    (h0:¬ v % 3 < 2→∀ s',Sat C (tled L ln rc kc lh lm ec dc uc m vs vc hl ml zc ρ) s'→Q .next s')
    (h1:v % 3 < 2→∀ C' tl tt x s',Ext C C'→RuleAt C' tl (.ref x) ⟨ad,decide (v % 3 = 1),i⟩ →
      Sat C' (tled L ln rc kc lh lm ec dc uc m (vs ++ [.ref tt]) (vc ++ [.ref x]) hl ml (zc ++ [(i:Int)]) (tl ++ (tt,.tup [.str ad 0,.str (wordR (decide (v % 3 = 1))) 0])::ρ)) s'→Q .next s') :
    wpAny (model prog w) A (execs turnR (lawEnv L)) Q (fun _ _=>False) s:=by
  have f1:(v:Int).fmod 3 = ((v % 3:Nat):Int):=fmodN _ 3
  have f2:(i:Int).fmod 2 = ((i % 2:Nat):Int):=fmodN _ 2
  have hi2:i % 2 < 2:=Nat.mod_lt _ (by decide)
  refine wpAny_execs_cons (wpAny_If (T.kN (Q:=fun b σ'=>b = decide (v % 3 < 2)∧σ' = tled L ln rc kc lh lm ec dc uc m vs vc hl ml zc ρ) ?_ S ?_))
  · unfold tled
    wtm_at "t_run"
    refine T_modI (by decide) fun _=>?_
    rw [f1]
    wtm_at "t_run"
    exact ⟨by rw [decide_eq_decide]; wtm_at "om", rfl⟩
  rintro b σ' s₁ ⟨rfl,rfl⟩ S₁
  by_cases hb:v % 3 < 2
  · refine ifT (decide_eq_true hb) (wpAny_execs_cons (T.kN (Q:=fun f σ'=>f = .next∧Ex2 fun tt D=>σ' = (tt,.tup [.str ad 0,.str (wordR (decide (v % 3 = 1))) 0])::(D,.lst [.str (Str.ofString "Disallow") 0,.str (Str.ofString "Allow") 0])::tled L ln rc kc lh lm ec dc uc m (vs ++ [.ref tt]) vc hl ml zc ρ) ?_ S₁ ?_))
    · unfold tled
      wtm_at "t_run"
      refine T_modI (by decide) fun _=>?_
      rw [f1]
      have hpv:[Value.str (Str.ofString "Disallow") 0,.str (Str.ofString "Allow") 0][v % 3]? = some (.str (wordR (decide (v % 3 = 1))) 0):=by
        have : ∀ k,k < 2→[Value.str (Str.ofString "Disallow") 0,.str (Str.ofString "Allow") 0][k]? = some (.str (wordR (decide (k = 1))) 0):=by
          intro k hk
          match k,hk with
          | 0,_=>rfl
          | 1,_=>rfl
        exact this _ hb
      refine T_itemL (xs:=[.str (Str.ofString "Disallow") 0,.str (Str.ofString "Allow") 0]) (.head _) (by wtm_at "om") (by wtm_at "om") (by rw [Int.toNat_natCast]; exact hpv) ?_
      generalize wordR (decide (v % 3 = 1)) = wd
      wtm_at "t_vs"
      wtm_at "t_run"
      refine T_append (by wtm_at "r_ur") (by wtm_at "om") ?_
      wtm_at "t_run"
      exact ⟨rfl,_,_,rfl⟩
    rintro fl σ₂ s₂ ⟨rfl,tt,D,rfl⟩ S₂
    have S₄:=(S₂.perm tled_perm).sub (List.sublist_cons_self _ _)
    clear S₂
    dsimp only
    refine wpAny_execs_cons (wpAny_Expr_any ?_ (by with_unfolding_all rfl) (by with_unfolding_all rfl))
    refine MethodCall_ (T.kN (Q:=fun z σ'=>z = .ref rc∧σ' = tled L ln rc kc lh lm ec dc uc m (vs ++ [.ref tt]) vc hl ml zc ((tt,.tup [.str ad 0,.str (wordR (decide (v % 3 = 1))) 0])::ρ)) ?_ S₄ ?_) (he:=by rfl)
    · unfold tled
      wtm_at "t_run"
      refine T_modI (by decide) fun _=>?_
      rw [f2]
      refine T_itemL (pv:=.ref ec) (by wtm_at "r_mem") (by wtm_at "om") (by wtm_at "om") (by rw [Int.toNat_natCast]; exact hE) ?_
      wtm_at "t_vs"
      wtm_at "t_run"
      exact ⟨rfl,rfl⟩
    rintro z σ₅ s₅ ⟨rfl,rfl⟩ S₅
    refine T.kN (Q:=fun fx σ'=>fx = (.builtin "list.append", [.ref rc])∧σ' = tled L ln rc kc lh lm ec dc uc m (vs ++ [.ref tt]) vc hl ml zc ((tt,.tup [.str ad 0,.str (wordR (decide (v % 3 = 1))) 0])::ρ)) ?_ S₅ ?_
    · unfold tled
      exact T_gmAppend (by wtm_at "r_mem") ⟨rfl,rfl⟩
    rintro fx σ₆ s₆ ⟨rfl,rfl⟩ S₆
    refine callWith_method1 (wpAny_items_cons (Call_ (T.kN (Q:=fun f σ'=>f = .ref 224∧σ' = tled L ln rc kc lh lm ec dc uc m (vs ++ [.ref tt]) vc hl ml zc ((tt,.tup [.str ad 0,.str (wordR (decide (v % 3 = 1))) 0])::ρ)) ?_ S₆ ?_) (by with_unfolding_all rfl)) (by with_unfolding_all rfl)) (by with_unfolding_all rfl) (by with_unfolding_all rfl)
    · unfold tled
      wtm_at "t_run"
      exact ⟨rfl,rfl⟩
    rintro fx σ₇ s₇ ⟨rfl,rfl⟩ S₇
    refine callWith_K S₇.kin (keep_of hK (by decide)) (T.kN (Q:=fun as σ'=>(Ex2 fun t u=>as = [.str ad t,.bool (decide (v % 3 = 1)),.int i u])∧σ' = tled L ln rc kc lh lm ec dc uc m (vs ++ [.ref tt]) vc hl ml zc ((tt,.tup [.str ad 0,.str (wordR (decide (v % 3 = 1))) 0])::ρ)) ?_ S₇ ?_) (by with_unfolding_all rfl) (by with_unfolding_all rfl)
    · unfold tled
      wtm_at "t_run"
      refine T_modI (by decide) fun _=>?_
      rw [f1]
      wtm_at "t_run"
      have e:(((v % 3:Nat):Int) == 1) = decide (v % 3 = 1):=by
        rw [Bool.eq_iff_iff,beq_iff_eq,decide_eq_true_eq]; wtm_at "om"
      rw [e]
      exact ⟨⟨_,_,rfl⟩,rfl⟩
    rintro fx σ₈ s₈ ⟨⟨t,u,rfl⟩,rfl⟩ S₈
    refine ⟨S₈.kin,?_⟩
    refine law_rule hK hL (R.le (by decide)) S₈ fun x d f ua r c c' o' vs' tt' fs s₉ e1 e2 e3 e4 e5 S₉=>?_
    refine wpAny_items_nil ?_
    have hC:Ext C (C.withLam lam02 hL (c',o')):=.lam .refl hL (c',o')
    have hR:RuleAt (C.withLam lam02 hL (c',o')) [(f,ruleFn c c'),(r,.lst []),(ua,.lst []),(x,.ins 76 d),(d,.idc fs),(c,.cel (some (.str ad 0)))] (.ref x) ⟨ad,decide (v % 3 = 1),i⟩ :=
      ⟨x,d,f,c,c',fs,rfl,by wtm_at "r_mem", by wtm_at "r_mem", e3,e4,e5,by wtm_at "r_mem", by wtm_at "r_mem", Pinned.lam e1 e2,hal⟩
    have hK':(C.withLam lam02 hL (c',o')).K = KK w.params:=hK
    have S₁₀:=S₉.perm (tled_app [_,_,_,_,_,_] _)
    generalize C.withLam lam02 hL (c',o') = C' at *
    generalize hτ:((tt,PO.tup [.str ad 0,.str (wordR (decide (v % 3 = 1))) 0])::ρ) = τ at *
    refine T.kN (C:=C') (Q:=fun _ σ'=>σ' = tled L ln rc kc lh lm ec dc uc m (vs ++ [.ref tt]) (vc ++ [.ref x]) hl ml zc ([(f,ruleFn c c'),(r,.lst []),(ua,.lst []),(x,.ins 76 d),(d,.idc fs),(c,.cel (some (.str ad 0)))] ++ τ)) ?_ S₁₀ ?_
    · unfold tled
      dsimp only [List.cons_append,List.nil_append]
      refine T_append (by wtm_at "r_ur") (by wtm_at "om") ?_
      rfl
    rintro _ σ₁₁ s₁₁ rfl S₁₁
    dsimp only
    refine wpAny_execs_cons (T.kN (C:=C') (Q:=fun f' σ'=>f' = .next∧σ' = tled L ln rc kc lh lm ec dc uc m (vs ++ [.ref tt]) (vc ++ [.ref x]) hl ml (zc ++ [(i:Int)]) ([(f,ruleFn c c'),(r,.lst []),(ua,.lst []),(x,.ins 76 d),(d,.idc fs),(c,.cel (some (.str ad 0)))] ++ τ)) ?_ S₁₁ ?_)
    · unfold tled
      wtm_at "t_run"
      refine T_modI (by decide) fun _=>?_
      rw [f2]
      refine T_itemL (pv:=.ref kc) (by wtm_at "r_mem") (by wtm_at "om") (by wtm_at "om") (by rw [Int.toNat_natCast]; exact hM) ?_
      wtm_at "t_vs"
      wtm_at "t_run"
      refine T_append (by wtm_at "r_ur") (by unfold intL; rw [List.length_map]; wtm_at "om") ?_
      wtm_at "t_run"
      have e:intL (zc ++ [(i:Int)]) = intL zc ++ [.int i 0]:=by unfold intL; rw [List.map_append]; rfl
      rw [e]
      exact ⟨rfl,rfl⟩
    rintro _ σ₁₂ s₁₂ ⟨rfl,rfl⟩ S₁₂
    dsimp only
    refine wpAny_execs_nil (wpAny_execs_nil ?_)
    subst hτ
    exact h1 hb _ _ _ _ _ hC hR S₁₂
  · refine ifF (decide_eq_false hb) (wpAny_execs_nil ?_)
    exact wpAny_execs_nil (h0 hb _ S₁)
end
theorem Ext.trans {C C' C'':Cx} (h:Ext C C') (h':Ext C' C''):Ext C C'':=by
  induction h' with
  | refl=>exact h
  | lam _ hq p ih=>exact .lam ih hq p
theorem Pinned.ext {C C':Cx} (h:Ext C C') {c':Addr} (hp:Pinned C c'):Pinned C' c':=by
  induction h with
  | refl=>exact hp
  | lam _ _ _ ih=>exact ih.grow
section
variable {prog:Program} {w:World} {C:Cx} {A:Around} {τ:Led} {s:Shared} {env:Env} {x y:Str} {px py pt:Pos} {k:Nat} {it:Addr} {po:Nat→Led} {need:Led→Prop} {xs:List (Value × Value)}
theorem forPX {body:List Stmt} {R:Result→Shared→Prop} (I:∀ C',Ext C C'→DrwP C' prog w A it po xs need) (hh:A.handled = none) (hkx:env.kindOf x = some .local) (hky:env.kindOf y = some .local) (hkf:env.scope.kind = .function)
    (J:Cx→Nat→Led→Prop) (S:Sat C (po 0 ++ τ) s) (h0:J C 0 τ) (hn:∀ C' i τ,J C' i τ→need τ)
    (turn:∀ C' i (hi:i < xs.length) τ,Ext C C'→J C' i τ→Ex2 fun m τ'=>Upd env.locals (.ns m) (.ns ((y,er xs[i].2)::(x,er xs[i].1)::m)) τ τ'∧∀ s,Sat C' (po (i + 1) ++ τ') s →
      wpAny (model prog w) A (execs body env) (fun fl s'=>fl = .next∧Ex2 fun C'' τ''=>Al3 (Ext C C'') (J C'' (i + 1) τ'') (Sat C'' (po (i + 1) ++ τ'') s')) (fun _ _=>False) s)
    (fin:∀ C' τ s',Ext C C'→J C' xs.length τ→Sat C' τ s'→R (.ok .next) s'):codeAny (model prog w) A (.forLoop (tupE [.Name x px,.Name y py] k pt) (.ref it) body [] env) R s:=by
  refine codeAny_forLoop_any (fun n s'=>Ex3 fun C' i τ=>Al4 (n + i = xs.length) (Ext C C') (J C' i τ) (Sat C' (po i ++ τ) s')) ?_ xs.length ⟨C,0,τ,rfl,.refl,h0,S⟩
  rintro n s' ⟨C',i,τ,hi,hC,hJ,S'⟩
  refine wpAny_mono ((I C' hC).step (Q:=fun r s₁=>match r with
    | none=>xs[i]? = none∧Sat C' τ s₁
    | some v=>Ex3 fun p TT pre=>Al5 (xs[i]? = some p) (v = .ref TT) ((TT,PO.tup [p.1,p.2])∈pre ++ τ) ((po (i + 1)).Sublist pre) (Sat C' (pre ++ τ) s₁)) (E:=fun _ _=>False) (es:=[.Name x px,.Name y py]) (k:=k) (pos:=pt) (hn _ _ _ hJ) S' (fun hx s₁ S₁=>⟨hx,S₁⟩) fun p hx TT pre s₁ hT hsub S₁=>⟨p,TT,pre,hx,rfl,hT,hsub,S₁⟩) (fun r s₁ h₁=>?_) fun _ _ h=>h.elim
  cases r with
  | none =>
    obtain ⟨hx,S₁⟩:=h₁
    have : i = xs.length:=by have:=List.getElem?_eq_none_iff.mp hx; wtm_at "om"
    subst this
    exact wpAny_execs_nil (fin C' τ _ hC hJ S₁)
  | some v =>
    refine wpAny_mono h₁ (fun _ s₂ h₂=>?_) fun _ _ h=>h.elim
    obtain ⟨p,TT,pre,hx,rfl,hT,hsub,S₂⟩:=h₂
    obtain ⟨hlt,hp⟩:=List.getElem?_eq_some_iff.mp hx
    subst hp
    obtain ⟨m,τ',U,hb⟩:=turn C' i hlt τ hC hJ
    refine asg2 hh hT hsub U hkx hky hkf S₂ fun s₃ S₃=>?_
    refine wpAny_mono (hb s₃ S₃) (fun fl s₄ h₄=>?_) fun _ _ h=>h.elim
    obtain ⟨rfl,C'',τ'',hC'',hJ'',S₄⟩:=h₄
    exact ⟨n - 1,by wtm_at "om", C'',i + 1,τ'',by wtm_at "om", hC'',hJ'',S₄⟩
end
structure LSt where
  (addrs:List Str) (names:List (Str × Str)) (r0 r1:List Rule) (z0 z1:List Int)
noncomputable def lstep (is:List Int) (i:Nat) (f:Int) (st:LSt):LSt :=
  if numOf is i f % 10 % 3 < 2 then
    if i % 2 = 0 then ⟨st.addrs ++ [adrOf st.addrs (numOf is i f)],(st.names ++ [(adrOf st.addrs (numOf is i f),wordA)]) ++ [(adrOf st.addrs (numOf is i f),wordR (decide (numOf is i f % 10 % 3 = 1)))],st.r0 ++ [⟨adrOf st.addrs (numOf is i f),decide (numOf is i f % 10 % 3 = 1),i⟩],st.r1,st.z0 ++ [(i:Int)],st.z1⟩
    else ⟨st.addrs ++ [adrOf st.addrs (numOf is i f)],(st.names ++ [(adrOf st.addrs (numOf is i f),wordA)]) ++ [(adrOf st.addrs (numOf is i f),wordR (decide (numOf is i f % 10 % 3 = 1)))],st.r0,st.r1 ++ [⟨adrOf st.addrs (numOf is i f),decide (numOf is i f % 10 % 3 = 1),i⟩],st.z0,st.z1 ++ [(i:Int)]⟩
  else ⟨st.addrs ++ [adrOf st.addrs (numOf is i f)],st.names ++ [(adrOf st.addrs (numOf is i f),wordA)],st.r0,st.r1,st.z0,st.z1⟩
noncomputable def fst6:List Int:=[100,21211,20,3132,3200,112]
noncomputable def lst (is:List Int):Nat→LSt
  | 0=>⟨[Str.ofString "/"],[(Str.ofString "/", wordA)],[],[],[],[]⟩
  | k + 1=>lstep is k (fst6.getD k 0) (lst is k)
structure LOk (k:Nat) (st:LSt):Prop where
  la:st.addrs.length = k + 1
  lb:∀ a∈st.addrs,a.length≤1 + 2 * k
  ln:st.names.length≤1 + 2 * k
  l0:st.r0.length≤k
  l1:st.r1.length≤k
  z0:st.z0.length≤k
  z1:st.z1.length≤k
theorem adr_len {as:List Str} {n b:Nat} (h:∀ a∈as,a.length≤b):(adrOf as n).length≤b + 2:=by
  unfold adrOf
  rw [Str.length_append]
  have h1:(as.getD (n / 10 % 10 % as.length) Str.empty).length≤b:=by
    rw [List.getD_eq_getElem?_getD]
    cases e:as[n / 10 % 10 % as.length]? with
    | none=>exact Nat.zero_le _
    | some a=>exact h a (List.mem_of_getElem? e)
  have h2:=slice_le' (sgS (n / 1000 % 10) ++ sgS (n / 10000 % 10)) none (some ((n / 100 % 10 % 3:Nat):Int))
  have h3:(sgS (n / 1000 % 10) ++ sgS (n / 10000 % 10)).length = 2:=rfl
  wtm_at "om"
theorem LOk.step {is:List Int} {i:Nat} {f:Int} {st:LSt} (h:LOk i st):LOk (i + 1) (lstep is i f st):=by
  obtain ⟨a1,a2,a3,a4,a5,a6,a7⟩:=h
  have hb:∀ a∈st.addrs ++ [adrOf st.addrs (numOf is i f)],a.length≤1 + 2 * (i + 1):=fun a ha=>by
    rcases List.mem_append.mp ha with ha | ha
    · have:=a2 a ha; wtm_at "om"
    · rw [List.mem_singleton.mp ha]
      have:=adr_len (n:=numOf is i f) a2; wtm_at "om"
  unfold lstep
  split
  · split
    · refine ⟨by rw [List.length_append,a1]; rfl,hb,?_,?_,?_,?_,?_⟩ <;> dsimp only <;> (try simp only [List.length_append,List.length_cons,List.length_nil]) <;> wtm_at "om"
    · refine ⟨by rw [List.length_append,a1]; rfl,hb,?_,?_,?_,?_,?_⟩ <;> dsimp only <;> (try simp only [List.length_append,List.length_cons,List.length_nil]) <;> wtm_at "om"
  · refine ⟨by rw [List.length_append,a1]; rfl,hb,?_,?_,?_,?_,?_⟩ <;> dsimp only <;> (try simp only [List.length_append,List.length_cons,List.length_nil]) <;> wtm_at "om"
theorem lst_ok (is:List Int):∀ k,LOk k (lst is k)
  | 0=>⟨rfl,fun a ha=>by rw [List.mem_singleton.mp ha]; exact Nat.le_refl _,Nat.le_refl _,Nat.le_refl _,Nat.le_refl _,Nat.le_refl _,Nat.le_refl _⟩
  | k + 1=>(lst_ok is k).step
structure LA where
  (la lh lm ln e0 d0 u0 r0 e1 d1 u1 r1 k0 k1:Addr)
noncomputable def prN (l:List (Str × Str)):List (Value × Value):=l.map fun p=>(.str p.1 0,.str p.2 0)
noncomputable def gled (a:LA) (L:Addr) (m:List (Str × Value)) (num:Option Value) (st:LSt) (vs v0 v1:List Value) (ρ:Led):Led :=
  (L,.ns m)::(a.la,.lst (txts st.addrs))::(a.ln,.lst vs)::(L + 1,.cel num)::(a.r0,.lst v0)::(a.r1,.lst v1)::(a.k0,.lst (intL st.z0))::(a.k1,.lst (intL st.z1))::(a.lh,.lst [.ref a.e0,.ref a.e1])::(a.lm,.lst [.ref a.k0,.ref a.k1]) ::
    (a.e0,.ins 76 a.d0)::(a.d0,.idc (entryF a.u0 a.r0))::(a.u0,.lst [])::(a.e1,.ins 76 a.d1)::(a.d1,.idc (entryF a.u1 a.r1))::(a.u1,.lst [])::(L + 1 + 1,.cel none)::(L + 1 + 1 + 1,.cel none)::ρ
structure LInv (C:Cx) (a:LA) (sl:Addr) (L:Addr) (st:LSt) (ρ τ:Led):Prop where
  ex:Ex6 fun m num vs v0 v1 tx=>Al9 (m.lookup (Str.ofString "script") = some (.ref sl)) (m.lookup (Str.ofString "addresses") = some (.ref a.la)) (m.lookup (Str.ofString "halves") = some (.ref a.lh)) (m.lookup (Str.ofString "marks") = some (.ref a.lm)) (m.lookup (Str.ofString "names") = some (.ref a.ln)) (prs tx vs (prN st.names)) (rls C tx v0 st.r0) (rls C tx v1 st.r1) (τ = gled a L m num st vs v0 v1 (tx ++ ρ))
theorem permG0 {α:Type} (e i L la ln L1 r0 r1 k0 k1 lh lm e0 d0 u0 e1 d1 u1 c2 c3:α) (r:List α) :
    (e::i::L::la::ln::L1::r0::r1::k0::k1::lh::lm::e0::d0::u0::e1::d1::u1::c2::c3::r).Perm (L::la::ln::L1::e::i::r0::r1::k0::k1::lh::lm::e0::d0::u0::e1::d1::u1::c2::c3::r) :=
  (List.perm_append_comm (l₁:=[e,i]) (l₂:=[L,la,ln,L1])).append_right _
theorem permG1 {α:Type} (tt D L la ln L1 e i r0 r1 k0 k1 lh lm e0 d0 u0 e1 d1 u1 c2 c3:α) (r:List α) :
    (tt::D::L::la::ln::L1::e::i::r0::r1::k0::k1::lh::lm::e0::d0::u0::e1::d1::u1::c2::c3::r).Perm (D::L::ln::r0::k0::lh::lm::e0::d0::(tt::e::i::la::L1::r1::k1::u0::e1::d1::u1::c2::c3::r)):=by
  classical
  refine List.perm_iff_count.mpr fun z=>?_
  simp only [List.count_cons]
  ac_rfl
theorem permG2 {α:Type} (tt D L la ln L1 e i r0 r1 k0 k1 lh lm e0 d0 u0 e1 d1 u1 c2 c3:α) (r:List α) :
    (tt::D::L::la::ln::L1::e::i::r0::r1::k0::k1::lh::lm::e0::d0::u0::e1::d1::u1::c2::c3::r).Perm (D::L::ln::r1::k1::lh::lm::e1::d1::(tt::e::i::la::L1::r0::k0::u0::e0::d0::u1::c2::c3::r)):=by
  classical
  refine List.perm_iff_count.mpr fun z=>?_
  simp only [List.count_cons]
  ac_rfl
theorem permB0 {α:Type} (X:List α) (tt L la ln L1 e i r0 r1 k0 k1 lh lm e0 d0 u0 e1 d1 u1 c2 c3:α) (r:List α) :
    (L::ln::r0::k0::lh::lm::e0::d0::(X ++ (tt::e::i::la::L1::r1::k1::u0::e1::d1::u1::c2::c3::r))).Perm (e::i::L::la::ln::L1::r0::r1::k0::k1::lh::lm::e0::d0::u0::e1::d1::u1::c2::c3::(X ++ (tt::r))):=by
  classical
  refine List.perm_iff_count.mpr fun z=>?_
  simp only [List.count_cons,List.count_append]
  ac_rfl
theorem permB1 {α:Type} (X:List α) (tt L la ln L1 e i r0 r1 k0 k1 lh lm e0 d0 u0 e1 d1 u1 c2 c3:α) (r:List α) :
    (L::ln::r1::k1::lh::lm::e1::d1::(X ++ (tt::e::i::la::L1::r0::k0::u0::e0::d0::u1::c2::c3::r))).Perm (e::i::L::la::ln::L1::r0::r1::k0::k1::lh::lm::e0::d0::u0::e1::d1::u1::c2::c3::(X ++ (tt::r))):=by
  classical
  refine List.perm_iff_count.mpr fun z=>?_
  simp only [List.count_cons,List.count_append]
  ac_rfl
theorem permC0 {α:Type} (X:List α) (t2 tt L la ln L1 e i r0 r1 k0 k1 lh lm e0 d0 u0 e1 d1 u1 c2 c3:α) (r:List α) :
    (L::ln::r0::k0::lh::lm::e0::d0::(X ++ (t2::tt::e::i::la::L1::r1::k1::u0::e1::d1::u1::c2::c3::r))).Perm (e::i::L::la::ln::L1::r0::r1::k0::k1::lh::lm::e0::d0::u0::e1::d1::u1::c2::c3::(X ++ (t2::tt::r))):=by
  classical
  refine List.perm_iff_count.mpr fun z=>?_
  simp only [List.count_cons,List.count_append]
  ac_rfl
theorem permC1 {α:Type} (X:List α) (t2 tt L la ln L1 e i r0 r1 k0 k1 lh lm e0 d0 u0 e1 d1 u1 c2 c3:α) (r:List α) :
    (L::ln::r1::k1::lh::lm::e1::d1::(X ++ (t2::tt::e::i::la::L1::r0::k0::u0::e0::d0::u1::c2::c3::r))).Perm (e::i::L::la::ln::L1::r0::r1::k0::k1::lh::lm::e0::d0::u0::e1::d1::u1::c2::c3::(X ++ (t2::tt::r))):=by
  classical
  refine List.perm_iff_count.mpr fun z=>?_
  simp only [List.count_cons,List.count_append]
  ac_rfl
section
variable {prog:Program} {w:World} {C:Cx} {A:Around} {ρ τ:Led} {sl L e it l:Addr} {is:List Int} {its:Array Value} {a:LA}
theorem prs_names {τ:Led} {vs:List Value} {l:List (Str × Str)} {tt:Addr} {x y:Str} (h:prs τ vs (prN l)) (ht:(tt,PO.tup [.str x 0,.str y 0])∈τ):prs τ (vs ++ [.ref tt]) (prN (l ++ [(x,y)])):=by
  unfold prN
  rw [List.map_append]
  exact h.app (.cons ht .nil)
theorem law_turn (hK:C.K = KK w.params) (hL:lam02∈C.lams) (R:Rm 40 A) (hO:C.h₀.IsList sl its) (hx:its.toList.map er = intL is) (hz:is.length≤63) {i:Nat} (hi:i < 6) (hI:LInv C a sl L (lst is i) ρ τ) :
    Ex2 fun m τ'=>Upd L (.ns m) (.ns ((Str.ofString "first", .int (fst6.getD i 0) 0)::(Str.ofString "place", .int i 0)::m)) τ τ'∧∀ s,Sat C ((e,enm it (i + 1))::(it,itr l (i + 1))::τ') s →
      wpAny (model prog w) A (execs turnDef (lawEnv L)) (fun fl s'=>fl = .next∧Ex2 fun C' τ''=>Al3 (Ext C C') (LInv C' a sl L (lst is (i + 1)) ρ τ'') (Sat C' ((e,enm it (i + 1))::(it,itr l (i + 1))::τ'') s')) (fun _ _=>False) s:=by
  obtain ⟨m,num,vs,v0,v1,tx,l1,l2,l3,l4,l5,hp,g0,g1,rfl⟩:=hI.ex
  obtain ⟨k1,k2,k3,k4,k5,k6,k7⟩:=lst_ok is i
  refine ⟨m,_,.head,fun s S=>?_⟩
  have hvl:vs.length≤1 + 2 * i:=by rw [hp.len]; unfold prN; rw [List.length_map]; exact k3
  have g0l:=g0.len
  have g1l:=g1.len
  rw [show lst is (i + 1) = lstep is i (fst6.getD i 0) (lst is i) from rfl]
  generalize hst:lst is i = st at *
  generalize hf:fst6.getD i 0 = f at *
  have hadl:(adrOf st.addrs (numOf is i f)).length≤20:=by have:=adr_len (n:=numOf is i f) k2; wtm_at "om"
  refine split_execs (a:=turnA) (b:=turnR) (C:=C) (P:=fun σ'=>Ex4 fun m' tt D o=>Al4 (m'.lookup (Str.ofString "address") = some (.str (adrOf st.addrs (numOf is i f)) 0)) (m'.lookup (Str.ofString "verdict") = some (.int (numOf is i f % 10:Nat) 0)) ((∀ x,x ∉ [Str.ofString "address", Str.ofString "signs", Str.ofString "two", Str.ofString "one", Str.ofString "more", Str.ofString "whose", Str.ofString "verdict"]→m'.lookup x = ((Str.ofString "first", Value.int f 0)::(Str.ofString "place", .int i 0)::m).lookup x)) (σ' = (tt,.tup [.str (adrOf st.addrs (numOf is i f)) 0,.str wordA 0])::(D,.raw o)::(L,.ns m')::(a.la,.lst (txts (st.addrs ++ [adrOf st.addrs (numOf is i f)])))::(a.ln,.lst (vs ++ [.ref tt]))::(L + 1,.cel (some (.int (numOf is i f) 0)))::_))
    (law_t1 (m:=(Str.ofString "first", .int f 0)::(Str.ofString "place", .int i 0)::m) (la:=a.la) (ln:=a.ln) (as:=st.addrs) (vs:=vs) (num:=num) hK R hO hx hz l1 rfl rfl l2 l5 (fun x hx=>by have:=k2 x hx; wtm_at "om") (fun h=>by rw [h] at k1; cases k1) (by wtm_at "om") (by wtm_at "om")
      fun m' tt D o q1 q2 q3=>⟨rfl,m',tt,D,o,q1,q2,q3,rfl⟩) (S.perm (permG0 _ _ _ _ _ _ _ _ _ _ _ _ _ _ _ _ _ _ _ _ _)) ?_
  rintro σ' s' ⟨m',tt,D,o,q1,q2,q3,rfl⟩ S'
  have n1:m'.lookup (Str.ofString "script") = some (.ref sl):=(q3 _ (by decide)).trans l1
  have n2:m'.lookup (Str.ofString "addresses") = some (.ref a.la):=(q3 _ (by decide)).trans l2
  have n3:m'.lookup (Str.ofString "halves") = some (.ref a.lh):=(q3 _ (by decide)).trans l3
  have n4:m'.lookup (Str.ofString "marks") = some (.ref a.lm):=(q3 _ (by decide)).trans l4
  have n5:m'.lookup (Str.ofString "names") = some (.ref a.ln):=(q3 _ (by decide)).trans l5
  have n6:m'.lookup (Str.ofString "place") = some (.int i 0):=(q3 _ (by decide)).trans rfl
  clear q3 l1 l2 l3 l4 l5
  unfold lstep
  generalize adrOf st.addrs (numOf is i f) = ad at *
  generalize numOf is i f % 10 = v at *
  by_cases hpar:i % 2 = 0
  · have S₂:=(S'.perm (permG1 _ _ _ _ _ _ _ _ _ _ _ _ _ _ _ _ _ _ _ _ _ _ _)).sub (List.sublist_cons_self _ _)
    refine law_t2 (rc:=a.r0) (kc:=a.k0) (ec:=a.e0) (dc:=a.d0) (uc:=a.u0) (lh:=a.lh) (lm:=a.lm) (ln:=a.ln) (hl:=[.ref a.e0,.ref a.e1]) (ml:=[.ref a.k0,.ref a.k1]) hK hL R n6 q2 q1 n5 n3 n4 (by rw [hpar]; rfl) (by rw [hpar]; rfl) (by rw [List.length_append]; show vs.length + 1≤_; wtm_at "om") (by wtm_at "om") (by wtm_at "om") hadl S₂ ?_ ?_
    · intro hv s₃ S₃
      rw [if_neg hv]
      refine ⟨rfl,C,_,.refl,⟨m',some (.int (numOf is i f) 0),vs ++ [Value.ref tt],v0,v1,(tt,.tup [.str ad 0,.str wordA 0])::tx,n1,n2,n3,n4,n5,prs_names (hp.mono fun _ h=>.tail _ h) (.head _),g0.mono (fun _ h=>.tail _ h) (fun _ h=>h),g1.mono (fun _ h=>.tail _ h) (fun _ h=>h),rfl⟩,?_⟩
      exact S₃.perm (permB0 [] _ _ _ _ _ _ _ _ _ _ _ _ _ _ _ _ _ _ _ _ _ _)
    · intro hv C' tl t2 x s₃ hC hR S₃
      rw [if_pos hv,if_pos hpar]
      have m1:∀ z∈tx,z∈tl ++ (t2,PO.tup [.str ad 0,.str (wordR (decide (v % 3 = 1))) 0])::(tt,PO.tup [.str ad 0,.str wordA 0])::tx:=fun z h=>List.mem_append_right _ (.tail _ (.tail _ h))
      have m2:(tl ++ (t2,PO.tup [.str ad 0,.str (wordR (decide (v % 3 = 1))) 0])::(tt,PO.tup [.str ad 0,.str wordA 0])::tx) ++ ρ = tl ++ ((t2,PO.tup [.str ad 0,.str (wordR (decide (v % 3 = 1))) 0])::(tt,PO.tup [.str ad 0,.str wordA 0])::(tx ++ ρ)):=List.append_assoc ..
      refine ⟨rfl,C',_,hC,⟨m',some (.int (numOf is i f) 0),(vs ++ [.ref tt]) ++ [.ref t2],v0 ++ [.ref x],v1,tl ++ (t2,.tup [.str ad 0,.str (wordR (decide (v % 3 = 1))) 0])::(tt,.tup [.str ad 0,.str wordA 0])::tx,n1,n2,n3,n4,n5,prs_names (prs_names (hp.mono m1) (List.mem_append_right _ (.tail _ (.head _)))) (List.mem_append_right _ (.head _)),(g0.mono m1 fun _ h=>h.ext hC).app (.cons (hR.mono (fun _ h=>List.mem_append_left _ h) fun _ h=>h) .nil),g1.mono m1 fun _ h=>h.ext hC,rfl⟩,?_⟩
      rw [m2]
      exact S₃.perm (permC0 tl _ _ _ _ _ _ _ _ _ _ _ _ _ _ _ _ _ _ _ _ _ _ _)
  · have hpar1:i % 2 = 1:=by wtm_at "om"
    have S₂:=(S'.perm (permG2 _ _ _ _ _ _ _ _ _ _ _ _ _ _ _ _ _ _ _ _ _ _ _)).sub (List.sublist_cons_self _ _)
    refine law_t2 (rc:=a.r1) (kc:=a.k1) (ec:=a.e1) (dc:=a.d1) (uc:=a.u1) (lh:=a.lh) (lm:=a.lm) (ln:=a.ln) (hl:=[.ref a.e0,.ref a.e1]) (ml:=[.ref a.k0,.ref a.k1]) hK hL R n6 q2 q1 n5 n3 n4 (by rw [hpar1]; rfl) (by rw [hpar1]; rfl) (by rw [List.length_append]; show vs.length + 1≤_; wtm_at "om") (by wtm_at "om") (by wtm_at "om") hadl S₂ ?_ ?_
    · intro hv s₃ S₃
      rw [if_neg hv]
      refine ⟨rfl,C,_,.refl,⟨m',some (.int (numOf is i f) 0),vs ++ [Value.ref tt],v0,v1,(tt,.tup [.str ad 0,.str wordA 0])::tx,n1,n2,n3,n4,n5,prs_names (hp.mono fun _ h=>.tail _ h) (.head _),g0.mono (fun _ h=>.tail _ h) (fun _ h=>h),g1.mono (fun _ h=>.tail _ h) (fun _ h=>h),rfl⟩,?_⟩
      exact S₃.perm (permB1 [] _ _ _ _ _ _ _ _ _ _ _ _ _ _ _ _ _ _ _ _ _ _)
    · intro hv C' tl t2 x s₃ hC hR S₃
      rw [if_pos hv,if_neg hpar]
      have m1:∀ z∈tx,z∈tl ++ (t2,PO.tup [.str ad 0,.str (wordR (decide (v % 3 = 1))) 0])::(tt,PO.tup [.str ad 0,.str wordA 0])::tx:=fun z h=>List.mem_append_right _ (.tail _ (.tail _ h))
      have m2:(tl ++ (t2,PO.tup [.str ad 0,.str (wordR (decide (v % 3 = 1))) 0])::(tt,PO.tup [.str ad 0,.str wordA 0])::tx) ++ ρ = tl ++ ((t2,PO.tup [.str ad 0,.str (wordR (decide (v % 3 = 1))) 0])::(tt,PO.tup [.str ad 0,.str wordA 0])::(tx ++ ρ)):=List.append_assoc ..
      refine ⟨rfl,C',_,hC,⟨m',some (.int (numOf is i f) 0),(vs ++ [.ref tt]) ++ [.ref t2],v0,v1 ++ [.ref x],tl ++ (t2,.tup [.str ad 0,.str (wordR (decide (v % 3 = 1))) 0])::(tt,.tup [.str ad 0,.str wordA 0])::tx,n1,n2,n3,n4,n5,prs_names (prs_names (hp.mono m1) (List.mem_append_right _ (.tail _ (.head _)))) (List.mem_append_right _ (.head _)),g0.mono m1 fun _ h=>h.ext hC,(g1.mono m1 fun _ h=>h.ext hC).app (.cons (hR.mono (fun _ h=>List.mem_append_left _ h) fun _ h=>h) .nil),rfl⟩,?_⟩
      rw [m2]
      exact S₃.perm (permC1 tl _ _ _ _ _ _ _ _ _ _ _ _ _ _ _ _ _ _ _ _ _ _ _)
end
section
variable {prog:Program} {w:World} {C:Cx} {A:Around} {ρ:Led} {s:Shared} {sl L:Addr} {is:List Int} {its:Array Value}
noncomputable def lawS0:Stmt:=match lawB with
  | s::_=>s
  | _=>default
noncomputable def led0 (a:LA) (L sl tt T4:Addr) (ρ:Led):Led :=
  (T4,.tup [.ref a.la,.ref a.lh,.ref a.lm,.ref a.ln])::(a.ln,.lst [.ref tt])::(tt,.tup [.str (Str.ofString "/") 0,.str wordA 0])::(a.lm,.lst [.ref a.k0,.ref a.k1])::(a.k1,.lst [])::(a.k0,.lst [])::(a.lh,.lst [.ref a.e0,.ref a.e1])::(a.r1,.lst [])::(a.u1,.lst [])::(a.e1,.ins 76 a.d1)::(a.d1,.idc (entryF a.u1 a.r1)) ::
      (a.r0,.lst [])::(a.u0,.lst [])::(a.e0,.ins 76 a.d0)::(a.d0,.idc (entryF a.u0 a.r0))::(a.la,.lst [.str (Str.ofString "/") 0])::(L,.ns [(Str.ofString "names", .ref a.ln),(Str.ofString "marks", .ref a.lm),(Str.ofString "halves", .ref a.lh),(Str.ofString "addresses", .ref a.la),(Str.ofString "script", .ref sl)])::(L + 1 + 1 + 1,.cel none)::(L + 1 + 1,.cel none)::(L + 1,.cel none)::ρ
theorem law_s0 {Q:Flow→Led→Prop} (hK:C.K = KK w.params) (R:Rm 40 A)
    (h:∀ (a:LA) tt T4,Q .next (led0 a L sl tt T4 ρ)) :
    T prog w C A ((L,.ns [(Str.ofString "script", .ref sl)])::(L + 1 + 1 + 1,.cel none)::(L + 1 + 1,.cel none)::(L + 1,.cel none)::ρ) (exec lawS0 (lawEnv L)) Q NoE:=by
  refine T_AssignS ?_ (by exact rfl) (by exact rfl)
  wtm_at "t_run"
  refine T_newEntry hK (R.le (by decide)) fun e0 d0 u0 r0=>?_
  wtm_at "t_run"
  refine T_newEntry hK (R.le (by decide)) fun e1 d1 u1 r1=>?_
  wtm_at "t_run"
  rename_i la lh k0 k1 lm _ _ tt ln T4
  refine T_assignAll1 (T_assignUT R.hand (.head _) rfl rfl rfl ?_)
  change T _ _ _ _ _ (assign _ _ (.ref la)) _ _
  wtm_at "t_run"
  change T _ _ _ _ _ (assign _ _ (.ref lh)) _ _
  wtm_at "t_run"
  change T _ _ _ _ _ (assign _ _ (.ref lm)) _ _
  wtm_at "t_run"
  change T _ _ _ _ _ (assign _ _ (.ref ln)) _ _
  wtm_at "t_run"
  exact h ⟨la,lh,lm,ln,e0,d0,u0,r0,e1,d1,u1,r1,k0,k1⟩ tt T4
theorem permS0 {α:Type} (ln tt lm k1 k0 lh r1 u1 e1 d1 r0 u0 e0 d0 la L c3 c2 c1:α) (r:List α):(ln::tt::lm::k1::k0::lh::r1::u1::e1::d1::r0::u0::e0::d0::la::L::c3::c2::c1::r).Perm (L::la::ln::c1::r0::r1::k0::k1::lh::lm::e0::d0::u0::e1::d1::u1::c2::c3::tt::r):=by
  classical
  refine List.perm_iff_count.mpr fun z=>?_
  simp only [List.count_cons]
  ac_rfl
theorem T_iterEn {σ:Led} {E:Value→Led→Prop} {Q:Value→Led→Prop} {e it:Addr} {i:Nat} (h1:(e,enm it i)∈σ) (h:Q (.ref e) σ):T prog w C A σ (pyIter (.ref e)) Q E:=fun s S=>by
  obtain ⟨oe,hoe,old,rfl⟩:=S.get h1
  exact wpAny_pyIter_enum hoe ⟨_,h,S⟩
theorem LInv.need {a:LA} {sl L D:Addr} {st:LSt} {ρ τ:Led} {v:PO} (h:LInv C a sl L st ((D,v)::ρ) τ):(D,v)∈τ:=by
  obtain ⟨m,num,vs,v0,v1,tx,_,_,_,_,_,_,_,_,rfl⟩:=h.ex
  unfold gled
  iterate 18 apply List.Mem.tail
  exact List.mem_append_right _ (.head _)
theorem zip6:∀ i (hi:i < ((intL fst6).mapIdx fun i z=>((.int i 0,z):Value × Value)).length),i < 6∧((intL fst6).mapIdx fun i z=>((.int i 0,z):Value × Value))[i] = (.int i 0,.int (fst6.getD i 0) 0):=by
  intro i hi
  have hi6:i < 6:=hi
  match i,hi6 with
  | 0,_=>exact ⟨by decide,rfl⟩
  | 1,_=>exact ⟨by decide,rfl⟩
  | 2,_=>exact ⟨by decide,rfl⟩
  | 3,_=>exact ⟨by decide,rfl⟩
  | 4,_=>exact ⟨by decide,rfl⟩
  | 5,_=>exact ⟨by decide,rfl⟩
theorem law_head {Q:Value→Shared→Prop} (hK:C.K = KK w.params) (hL:lam02∈C.lams) (R:Rm 60 A) (hO:C.h₀.IsList sl its) (hx:its.toList.map er = intL is) (hz:is.length≤63) (S:Sat C ρ s)
    (h:∀ C' L a D ρ' τ s',Ext C C'→LInv C' a sl L (lst is 6) ρ' τ→Sat C' τ s'→ρ' = (D,.lst (intL fst6))::ρ→wpAny (model prog w) (A.deeper (lawEnv L)) (execs (lawB.drop 2) (lawEnv L)) (fun fl s''=>Q (retv fl) s'') (fun _ _=>False) s') :
    wpAny (model prog w) A (call (.ref 246) [.ref sl]) Q (fun _ _=>False) s:=by
  refine wpAny_call ?_
  refine' callGS (m:=[(Str.ofString "script", .ref sl)]) (binds:=[(Str.ofString "script", .ref sl)]) lawCells (fun L=>[(L + 1 + 1 + 1,.cel none),(L + 1 + 1,.cel none),(L + 1,.cel none)]) R.room (ho:=?ho) (hcd:=?hcd) (hbind:=?hb) (hloc:=?hloc) (hm:=?hm) (hcells:=?hc1) (hcv:=?hc2) (hnd:=?hc3) (hnd2:=?hc4) (h:=?h) (hco:=?hco) (hgen:=?hgen) (hk:=?hk) S
  case ho=>rw [hK]; exact lookup_KK rfl rfl
  case hcd=>wtm_at "r_k"
  case hb=>exact fun s X=>kp_binds (K:=KK w.params) (hK ▸ X) fun S=>by kernel_rfl
  case hloc=>kernel_rfl
  case hm=>exact rfl
  case hco=>rfl
  case hgen=>rfl
  case hk=>rfl
  case hc1=>exact fun L=>rfl
  case hc2=>exact fun L=>rfl
  case hc3=>decide
  case hc4=>exact fun L=>rfl
  intro L s₁ S₁
  refine wpAny_execs_cons (T.kN (Q:=fun f σ'=>f = .next∧∃ (a:LA) (tt T4:Addr),σ' = led0 a L sl tt T4 ρ) (law_s0 hK ((R.deeper _).le (by decide)) fun a tt T4=>⟨rfl,a,tt,T4,rfl⟩) S₁ ?_)
  rintro f σ' s₂ ⟨rfl,a,tt,T4,rfl⟩ S₂
  have S₃:=(S₂.sub (List.sublist_cons_self _ _)).perm (permS0 _ _ _ _ _ _ _ _ _ _ _ _ _ _ _ _ _ _ _ _)
  dsimp only
  refine wpAny_execs_cons (wpAny_For (T.kN (Q:=fun x σ'=>Ex3 fun e it D=>x = .ref e∧σ' = (e,enm it 0)::(it,itr D 0)::(D,.lst (intL fst6))::gled a L [(Str.ofString "names", .ref a.ln),(Str.ofString "marks", .ref a.lm),(Str.ofString "halves", .ref a.lh),(Str.ofString "addresses", .ref a.la),(Str.ofString "script", .ref sl)] none (lst is 0) [.ref tt] [] [] ((tt,.tup [.str (Str.ofString "/") 0,.str wordA 0])::ρ)) ?_ S₃ ?_) (fun _=>by with_unfolding_all rfl))
  · wtm_at "t_run"
    refine T_enum (ys:=intL fst6) (.head _) fun e it=>?_
    exact ⟨e,it,_,rfl,rfl⟩
  rintro x σ₄ s₄ ⟨e,it,D,rfl,rfl⟩ S₄
  refine T.kN (Q:=fun x σ'=>x = .ref e∧σ' = _) (T_iterEn (.head _) ⟨rfl,rfl⟩) S₄ ?_
  rintro x σ₅ s₅ ⟨rfl,rfl⟩ S₅
  have hI0:LInv C a sl L (lst is 0) ((D,.lst (intL fst6))::ρ) (gled a L [(Str.ofString "names", .ref a.ln),(Str.ofString "marks", .ref a.lm),(Str.ofString "halves", .ref a.lh),(Str.ofString "addresses", .ref a.la),(Str.ofString "script", .ref sl)] none (lst is 0) [.ref tt] [] [] ([(tt,.tup [.str (Str.ofString "/") 0,.str wordA 0])] ++ ((D,.lst (intL fst6))::ρ))) :=
    ⟨_,none,[.ref tt],[],[],[(tt,.tup [.str (Str.ofString "/") 0,.str wordA 0])],rfl,rfl,rfl,rfl,rfl,.cons (.head _) .nil,.nil,.nil,rfl⟩
  have S₆:=S₅.perm (σ':=(e,enm it 0)::(it,itr D 0)::gled a L [(Str.ofString "names", .ref a.ln),(Str.ofString "marks", .ref a.lm),(Str.ofString "halves", .ref a.lh),(Str.ofString "addresses", .ref a.la),(Str.ofString "script", .ref sl)] none (lst is 0) [.ref tt] [] [] ([(tt,.tup [.str (Str.ofString "/") 0,.str wordA 0])] ++ ((D,.lst (intL fst6))::ρ)))
    (List.Perm.cons _ (List.Perm.cons _ (List.perm_middle (l₁:=[_,_,_,_,_,_,_,_,_,_,_,_,_,_,_,_,_,_,_])).symm))
  refine forPX (po:=fun i=>[(e,enm it i),(it,itr D i)]) (xs:=(intL fst6).mapIdx fun i z=>(.int i 0,z)) (need:=fun τ=>(D,.lst (intL fst6))∈τ) (fun C' hC=>drwE (R.deeper _).hand) (R.deeper _).hand rfl rfl rfl (fun C' i τ=>LInv C' a sl L (lst is i) ((D,.lst (intL fst6))::ρ) τ) S₆ hI0 (fun C' i τ h=>h.need) ?_ ?_
  · intro C' i hi τ hC hI
    obtain ⟨hi6,e6⟩:=zip6 i hi
    rw [e6]
    obtain ⟨h1,h2⟩:=hC.same
    obtain ⟨m,τ',U,hb⟩:=law_turn (prog:=prog) (A:=A.deeper (lawEnv L)) (e:=e) (it:=it) (l:=D) (h1.trans hK) (hC.sub _ hL) ((R.deeper _).le (by decide)) (by rw [h2]; exact hO) hx hz hi6 hI
    refine ⟨m,τ',U,fun s S=>?_⟩
    refine wpAny_mono (hb s S) (fun fl s' h=>?_) fun _ _ h=>h
    obtain ⟨rfl,C'',τ'',h3,h4,h5⟩:=h
    exact ⟨rfl,C'',τ'',hC.trans h3,h4,h5⟩
  · intro C' τ s' hC hI S'
    exact h C' L a D _ τ s' hC hI S' rfl
end
noncomputable def attrD (l:List (Str × Str)):List (Str × Value):=l.foldl (fun d p=>stored d (nm p) (.str p.1 0)) []
theorem attrD_le (l:List (Str × Str)):(attrD l).length≤l.length:=by
  have : ∀ (l:List (Str × Str)) d,(l.foldl (fun d p=>stored d (nm p) (.str p.1 0)) d).length≤d.length + l.length:=by
    intro l
    induction l with
    | nil=>exact fun d=>Nat.le_refl _
    | cons p r ih =>
      intro d
      have h1:=ih (stored d (nm p) (.str p.1 0))
      have h2:=stored_le d (nm p) (.str p.1 0)
      rw [List.foldl_cons,List.length_cons]
      wtm_at "om"
  have:=this l []
  rw [List.length_nil] at this
  unfold attrD
  wtm_at "om"
noncomputable def tg0:Str × Str:=(Str.ofString "/", Str.ofString "robots")
section
variable {prog:Program} {w:World} {C:Cx} {A:Around} {ρ:Led} {L ln:Addr} {m:List (Str × Value)} {vs:List Value} {names N:List (Str × Str)}
theorem law_2 {Q:Flow→Led→Prop} (R:Rm 40 A) (l1:m.lookup (Str.ofString "names") = some (.ref ln)) (hp:prs ρ vs (prN names)) (hl:∀ p∈names,p.1.length≤20∧p.2.length≤20) (hn:names.length≤100)
    (h:∀ ad wl,T prog w C A ((wl,.lst [])::(ad,dcp prog w (attrD names))::(L,.ns ((Str.ofString "attrs", .ref ad)::(Str.ofString "pieces", .ref wl)::m))::(ln,.lst vs)::ρ) (execs (lawB.drop 3) (lawEnv L)) Q NoE) :
    T prog w C A ((L,.ns m)::(ln,.lst vs)::ρ) (execs (lawB.drop 2) (lawEnv L)) Q NoE:=by
  refine T_cons ?_
  refine' T_AssignSw R.hand ?sw ?sw1 ?sw2
  case sw1=>rfl
  case sw2=>rfl
  wtm_at "t_run"
  refine' T_DCg _ ?lc1 ?lc2 ?lc3 ?_ ?lc5
  case lc1=>exact rfl
  case lc2=>rfl
  case lc3=>decide
  case lc5=>intro _; rfl
  wtm_at "t_run"
  refine T_iterL (by wtm_at "r_mem") fun it=>?_
  refine' T_compPD (po:=fun i=>[(it,itr ln i)]) (drwL (l:=ln) (vs:=vs) (xs:=prN names) R.hand) R.hand (fun r ac τ=>∃ k,Al3 (r = (prN names).drop k) (ac = attrD (names.take k)) (τ = (L,.ns m)::(ln,.lst vs)::ρ)) ?u0 ?un ?uz ?v1 ?v2 ?v3 ?v4 ?ut ?uf (fun q τ h=>⟨.tail _ h.1,h.2.mono fun _=>.tail _⟩)
  case v1=>rfl
  case v2=>rfl
  case v3=>rfl
  case v4=>decide
  case u0=>exact ⟨0,rfl,rfl,rfl⟩
  case un=>rintro r ac τ ⟨k,_,_,rfl⟩; exact ⟨.tail _ (.head _),hp.mono fun _ h=>.tail _ (.tail _ h)⟩
  case uz =>
    rintro r ac τ ⟨k,_,rfl,_⟩
    have:=attrD_le (names.take k)
    rw [List.length_take] at this; wtm_at "om"
  case ut =>
    rintro D' L' p r ac τ i m' ⟨k,hr,rfl,hτ⟩
    obtain ⟨hlt,rfl,rfl,htk⟩:=drop_at (f:=fun p:Str × Str=>((.str p.1 0,.str p.2 0):Value × Value)) (l:=names) (b:=p) (r:=r) (by rw [hr]; unfold prN; rw [List.map_drop])
    obtain ⟨g1,g2⟩:=hl _ (List.getElem_mem hlt)
    generalize names[k] = p at *
    have e1:(Str.ofString "{").length = 1:=rfl
    have e2:(Str.ofString "}").length = 1:=rfl
    dsimp only [er]
    wtm_at "t_run"
    refine T_addS (by wtm_at "om") fun _=>?_
    wtm_at "t_run"
    refine T_addS (by rw [Str.length_append]; wtm_at "om") fun _=>?_
    wtm_at "t_run"
    refine T_addS (by rw [Str.length_append,Str.length_append]; wtm_at "om") fun _=>?_
    wtm_at "t_run"
    refine ⟨_,_,_,rfl,⟨k + 1,by unfold prN; rw [List.map_drop],?_,hτ⟩,List.Sublist.refl _⟩
    rw [htk]
    unfold attrD
    rw [List.foldl_append]
    show stored _ _ _ = stored _ _ _
    unfold nm
    rw [Str.append_assoc,Str.append_assoc]
  case uf =>
    rintro ac τ ⟨k,hr,rfl,rfl⟩
    have hk:names.length≤k:=by
      have:=congrArg List.length hr
      unfold prN at this
      rw [List.length_nil,List.length_drop,List.length_map] at this
      wtm_at "om"
    rw [List.take_of_length_le hk]
    intro D
    wtm_at "t_run"
    refine ⟨_,_,_,rfl,.head _,?_⟩
    change T _ _ _ _ _ (storeName _ _ (.ref _)) _ _
    wtm_at "t_st"
    change T _ _ _ _ _ (storeName _ _ (.ref _)) _ _
    wtm_at "t_st"
    exact T.drop (h _ _) (.cons _ (List.Sublist.refl _))
noncomputable def pageT (ys rs:List (Str × Str)):Str:=Builtin.Str.glued (Str.ofString "") ([Str.ofString "<" ++ rowS (firsts ys) tg0,Builtin.Str.glued (Str.ofString "") ((xm (firsts ys) ++ rs.map (rowA (firsts ys))).map attS),Str.ofString ">"] ++ [Str.ofString "</" ++ rowS (firsts ys) tg0 ++ Str.ofString ">"])
theorem page_sum {ys rs:List (Str × Str)} (hok:∀ r∈tg0::N,NmOk r) (hz:N.length≤40) (hul:(firsts ys).length≤9) (p1:ys.Perm (tg0::N)) (p3:rs.Perm N) :
    (([Str.ofString "<" ++ rowS (firsts ys) tg0,Builtin.Str.glued (Str.ofString "") ((xm (firsts ys) ++ rs.map (rowA (firsts ys))).map attS),Str.ofString ">"] ++ [Str.ofString "</" ++ rowS (firsts ys) tg0 ++ Str.ofString ">"]).map (·.length)).sum≤20000:=by
  have hfr:=firsts_from ys
  have hmem:∀ u∈firsts ys,∃ b∈tg0::N,b.1 = u:=fun u hu=>by
    obtain ⟨b,hb,rfl⟩:=List.mem_map.mp ((hfr.2 u).mp hu)
    exact ⟨b,p1.mem_iff.mp hb,rfl⟩
  have hu:tg0.1∈firsts ys:=(hfr.2 _).mpr (List.mem_map_of_mem (p1.mem_iff.mpr (.head _)))
  have hX:=xm_ok (us:=firsts ys) (by omega) fun u hu=>by
    obtain ⟨b,hb,rfl⟩:=hmem u hu
    exact ⟨(hok b hb).l1,(hok b hb).es⟩
  have hR:∀ p∈rs.map (rowA (firsts ys)),AttOk p:=fun p hp=>by
    obtain ⟨g,hg,rfl⟩:=List.mem_map.mp hp
    have hg':g∈tg0::N:=.tail _ (p3.mem_iff.mp hg)
    exact row_ok (by omega) (hok g hg') ((hfr.2 _).mpr (List.mem_map_of_mem (p1.mem_iff.mpr hg')))
  have hS:=StrLaws.sumLen_le (B:=190) ((xm (firsts ys) ++ rs.map (rowA (firsts ys))).map attS) fun y hy=>by
    obtain ⟨p,hp,rfl⟩:=List.mem_map.mp hy
    rcases List.mem_append.mp hp with hp | hp
    · exact attS_len (hX p hp)
    · exact attS_len (hR p hp)
  have hxl:(xm (firsts ys)).length = (firsts ys).length:=by unfold xm; rw [List.length_mapIdx]
  rw [List.length_map,List.length_append,List.length_map,hxl,p3.length_eq] at hS
  have hS2:(((xm (firsts ys) ++ rs.map (rowA (firsts ys))).map attS).map (·.length)).sum≤49 * 190:=Nat.le_trans hS (Nat.mul_le_mul_right _ (by omega))
  have hg:(Builtin.Str.glued (Str.ofString "") ((xm (firsts ys) ++ rs.map (rowA (firsts ys))).map attS)).length≤9310:=by
    rw [size_glued]
    show _ + _ * 0≤_
    omega
  have hpl:=pre_len ((firsts ys).idxOf tg0.1) (by have:=List.idxOf_lt_length_of_mem hu; omega)
  have hql:(rowS (firsts ys) tg0).length≤40:=by
    exact sl (sl hpl.1 (Nat.le_refl _) (c:=11) rfl) (Nat.le_refl _) rfl
  exact Nat.le_trans (Nat.add_le_add (sl (Nat.le_refl _) hql (c:=41) rfl) (Nat.add_le_add hg (Nat.add_le_add (Nat.le_refl 1) (Nat.add_le_add (sl (sl (Nat.le_refl _) hql (c:=42) rfl) (Nat.le_refl _) (c:=43) rfl) (Nat.le_refl 0))))) (Nat.le_of_ble_eq_true rfl)
theorem page_len {ys rs:List (Str × Str)} (hok:∀ r∈tg0::N,NmOk r) (hz:N.length≤40) (hul:(firsts ys).length≤9) (p1:ys.Perm (tg0::N)) (p3:rs.Perm N):(pageT ys rs).length≤20000:=by
  unfold pageT
  have:=page_sum hok hz hul p1 p3
  rw [size_glued]
  show _ + _ * 0≤_
  omega
theorem nm_tg0:nm tg0 = Str.ofString "{/}robots" := by decide +kernel
theorem permW2 {α:Type} (x d de dl tt pm da ns n1 ps wa wl ad L:α) (r:List α):(x::d::de::dl::tt::pm::da::ns::n1::ps::wa::wl::ad::L::r).Perm (x::d::de::dl::tt::pm::wa::wl::da::ns::ps::ad::n1::L::r):=by
  classical
  refine List.perm_iff_count.mpr fun z=>?_
  simp only [List.count_cons]
  ac_rfl
theorem law_3 {Q:Flow→Led→Prop} {ad wl:Addr} (hK:C.K = KK w.params) (hL:lam01∈C.lams) (R:Rm 40 A) (hok:∀ r∈tg0::N,NmOk r) (hnd:(tg0::N).Nodup) (hz:N.length≤40) (hN:N ≠ []) (hA:∀ l:List Str,l.Nodup→(∀ u∈l,u∈(tg0::N).map (·.1))→l.length≤9)
    (h:∀ (ys rs:List (Str × Str)) x,ys.Perm (tg0::N)→ys.Pairwise (fun a b=>lex bef bef a b = true)→rs.Perm N→rs.Pairwise (fun a b=>bef (nm a) (nm b) = true) →
      T prog w C A ((L,.ns ((Str.ofString "text", .str (pageT ys rs) 0)::(Str.ofString "writer", .ref x)::(Str.ofString "attrs", .ref ad)::(Str.ofString "pieces", .ref wl)::m))::(ad,dcp prog w (kvN N))::ρ) (execs (lawB.drop 6) (lawEnv L)) Q NoE) :
    T prog w C A ((wl,.lst [])::(ad,dcp prog w (kvN N))::(L,.ns ((Str.ofString "attrs", .ref ad)::(Str.ofString "pieces", .ref wl)::m))::ρ) (execs (lawB.drop 3) (lawEnv L)) Q NoE:=by
  refine T_cons ?_
  wtm_at "t_run"
  refine T_CallKw1 ?_
  wtm_at "t_run"
  refine ⟨keep_of hK (by decide),?_⟩
  wtm_at "t_run"
  refine T_getApp (by wtm_at "r_mem") fun wa=>?_
  wtm_at "t_run"
  refine T_newWriter1 hK (R.le (by decide)) fun x d da dl de ns n1 pm ps tt=>?_
  wtm_at "t_run"
  refine T.perm ?_ (permW2 _ _ _ _ _ _ _ _ _ _ _ _ _ _ _)
  rw [← nm_tg0]
  refine T_start1 (tg:=tg0) (ρ:=(n1,.lst [])::(L,.ns _)::ρ) hK hL (R.le (by decide)) hok hnd hz hN hA fun nn ys rs vs τ n2 p1 p2 p3 p4 p5 p6=>?_
  wtm_at "t_run"
  have hm0:(L,PO.ns ((Str.ofString "writer", .ref x)::(Str.ofString "attrs", .ref ad)::(Str.ofString "pieces", .ref wl)::m))∈τ:=p5.subset (.tail _ (.head _))
  unfold QA.led qa
  dsimp only
  refine T_Name (T_ldL (by rfl) (by rfl) (by iterate 13 apply List.Mem.tail
                                             exact hm0) (by exact rfl) ?_)
  wtm_at "t_vs"
  wtm_at "t_run"
  have hfr:=firsts_from ys
  have hmem:∀ u∈firsts ys,u∈(tg0::N).map (·.1):=fun u hu=>by
    obtain ⟨b,hb,rfl⟩:=List.mem_map.mp ((hfr.2 u).mp hu)
    exact List.mem_map_of_mem (p1.mem_iff.mp hb)
  have hu:tg0.1∈firsts ys:=(hfr.2 _).mpr (List.mem_map_of_mem (p1.mem_iff.mpr (.head _)))
  have hul:=hA _ hfr.1 hmem
  dsimp only [List.cons_append,List.nil_append]
  refine T_end1 (p:={ qa x d wa da de dl tt nn ns pm ps with seen:=true }) (tg:=tg0) (us:=firsts ys) hK (R.le (by decide)) (hok _ (.head _)) hu hul hfr.1 p6 (Nat.le_of_ble_eq_true rfl) ?_
  wtm_at "t_run"
  have hsum:=page_sum hok hz hul p1 p3
  have hpg:=page_len hok hz hul p1 p3
  have h:=h ys rs x p1 p2 p3 p4
  unfold pageT at hpg h
  refine T_join (.tail _ (.head _)) (by rw [foldl_len]; omega) (by omega) fun _=>?_
  generalize Builtin.Str.glued (Str.ofString "") ([Str.ofString "<" ++ rowS (firsts ys) tg0,Builtin.Str.glued (Str.ofString "") ((xm (firsts ys) ++ rs.map (rowA (firsts ys))).map attS),Str.ofString ">"] ++ [Str.ofString "</" ++ rowS (firsts ys) tg0 ++ Str.ofString ">"]) = text at *
  refine T.drop (σ':=(ad,dcp prog w (kvN N))::(L,.ns ((Str.ofString "writer", .ref x)::(Str.ofString "attrs", .ref ad)::(Str.ofString "pieces", .ref wl)::m))::ρ) ?_ (.cons_cons _ (.cons _ ((List.sublist_cons_self _ _).trans p5)))
  refine T.perm ?_ (List.Perm.swap _ _ _)
  exact T_stL .head (by rfl) (by rfl) h
end
noncomputable def cntS:(Str→Bool)→Nat→List Str→Nat
  | _,n,[]=>n
  | P,n,x::r=>cntS (fun y=>P y || decide (y = x)) (if P x then n else n + 1) r
section
variable {prog:Program} {w:World} {A:Around} {E:Value→Shared→Prop} {C:Cx} {σ σ' τ:Led} {s:Shared} {it l a:Addr} {P:Str→Bool} {n:Nat} {Q:Value→Shared→Prop} {x:Str} {t:Tok}
section
variable {po:Nat→PO} {xs:List Str} {need:Led→Prop} {R:Result→Shared→Prop}
theorem set_loopE (I:Its C prog w A.in1 it po (txts xs) need) (hz:xs.length + 1 < 4096) (hneed:∀ q τ,need τ→need (q::τ)) :
    ∀ k i P n s,xs.length - i = k→i≤xs.length→need τ→n≤i→Sat C ((it,po i)::(a,stp prog w P n)::τ) s →
      (∀ s',Sat C ((a,stp prog w (fun y=>P y || (xs.drop i).any fun z=>decide (y = z)) (cntS P n (xs.drop i)))::τ) s'→R (.ok (.ret .none)) s') →
      codeAny (model prog w) A (.builtin "set.update.loop" ⟨[.ref a,.ref it],[]⟩) R s:=by
  intro k
  induction k with
  | zero =>
    intro i P n s hk hi hn hni S h
    refine codeAny_builtin F.entry_set_update_loop ?_
    rw [Around.under_plainId F.plain_set_update_loop _]
    show wpAny _ A.in1 (pyNext (.ref it) >>= _) _ _ s
    have hx:(txts xs)[i]? = none:=by rw [List.getElem?_eq_none_iff,List.length_map]; wtm_at "om"
    refine wpAny_bind (I.next (hneed _ _ hn) S (fun _ s' S'=>?_) fun p v hp=>?_)
    · show wpAny _ A.in1 (ret Value.none) _ _ s'
      refine wpAny_pure (h s' ?_)
      have e:(fun y=>P y || (xs.drop i).any fun z=>decide (y = z)) = P:=by
        funext y
        rw [List.drop_eq_nil_iff.mpr (by wtm_at "om"),List.any_nil,Bool.or_false]
      rw [e,List.drop_eq_nil_iff.mpr (by wtm_at "om")]; exact S'
    · rw [hx] at hp; cases hp
  | succ k ih =>
    intro i P n s hk hi hn hni S h
    refine codeAny_builtin F.entry_set_update_loop ?_
    rw [Around.under_plainId F.plain_set_update_loop _]
    show wpAny _ A.in1 (pyNext (.ref it) >>= _) _ _ s
    have hlt:i < xs.length:=by wtm_at "om"
    refine wpAny_bind (I.next (hneed _ _ hn) S (fun hx=>?_) fun p v hp hv s' S'=>?_)
    · rw [List.getElem?_eq_none_iff,List.length_map] at hx; wtm_at "om"
    have hp':p = .str xs[i] 0:=by
      rw [List.getElem?_map,List.getElem?_eq_getElem hlt] at hp
      exact (Option.some.inj hp).symm
    subst hp'
    obtain ⟨t,rfl⟩:=er_str hv
    show wpAny _ A.in1 (holding [Value.str xs[i] t] (setAdd a (.str xs[i] t)) >>= _) _ _ s'
    refine wpAny_bind (wpAny_holding ?_)
    unfold setAdd
    refine wpAny_holding (wpAny_bind ((PySem.strKind prog w).pyHash (k:=xs[i]) (strKind_is ..) ?_))
    refine wpAny_setAddHashed_of (knd:=PySem.strKind prog w) (s:={ s' with toks:=s'.toks + 1 }) (strKind_is ..) rfl (S'.setOf (.tail _ (.head _)) (by wtm_at "om")) (by show n + 1 < 4096; wtm_at "om") fun h' hs hS=>?_
    obtain ⟨o,ho,hp⟩:=hS.objOf
    have S₂:=S'.set (.tail (.head (p':=stp prog w (fun y=>P y || decide (y = xs[i])) (if P xs[i] then n else n + 1)))) hs ho hp (s'.toks + 1)
    refine wpAny_pure ⟨plainId_quiet F.plain_set_update_loop _,ih (i + 1) _ _ _ (by wtm_at "om") (by wtm_at "om") hn (by split <;> wtm_at "om") S₂ fun s'' S''=>h s'' ?_⟩
    have e:(fun y=>P y || (xs.drop i).any fun z=>decide (y = z)) = fun y=>(P y || decide (y = xs[i])) || (xs.drop (i + 1)).any fun z=>decide (y = z):=by
      funext y
      rw [List.drop_eq_getElem_cons hlt,List.any_cons,Bool.or_assoc]
    rw [e,List.drop_eq_getElem_cons hlt]; exact S''
end
set_option maxHeartbeats 3200000 in
theorem setInitE {l:Addr} {led:Bool} {R:Result→Shared→Prop} (S₁:Sat C ((a,.raw { cls:=.type "set", dict:=none,data:=.set #[] 0 (.fresh 0 0 led) })::σ) s) (hl:(l,.lst (txts xs))∈σ) (hz:xs.length + 1 < 4096) (hh:A.handled = none)
    (h:∀ s',Sat C ((a,stp prog w (fun y=>xs.any fun z=>decide (y = z)) (cntS (fun _=>false) 0 xs))::σ) s'→R (.ok (.ret .none)) s') :
    wpAny (model prog w) A.in1.in1 (Builtin.«set.__init__» ⟨[.ref a,.ref l],[]⟩) (fun fin s'=>match fin with | .done f=>R (.ok f) s' | .again c'=>c'.quiet = true∧codeAny (model prog w) A.in1 c' R s') (fun e s'=>R (.error e) s') s:=by
  obtain ⟨ol,hol,its,nl,rfl,hel⟩:=S₁.get (.tail _ hl)
  obtain ⟨oa,hoa,hpa⟩:=S₁.get (.head _)
  have hpa:oa = _:=hpa
  subst hpa
  have hsls:=F.sub_list_set
  have hslf:=F.sub_list_frozenset
  have hne:(Value.type "list" == Value.type "dict") = false:=by decide
  have S₂:=S₁.weak (q:=stp prog w (fun _=>false) 0) fun o ho=>by rw [show o = _ from ho]; exact setObjOf_fresh led
  unfold Builtin.«set.__init__» noKeywords Builtin.Frozenset.updateFrom
  generalize hPI:pyIter = PI
  obtain ⟨hp,g,d,tk,os⟩:=s
  wp_walk
  subst hPI
  refine iterL S₂ (.tail _ hl) fun it s' S'=>?_
  refine wpAny_bind (wpAny_runValue (set_loopE (xs:=xs) (need:=fun τ=>(l,.lst (txts xs))∈τ) (itsL (by exact hh)) hz (fun q τ h=>(List.Mem.tail q h:(l,PO.lst (txts xs))∈q::τ)) _ 0 _ 0 s' rfl (Nat.zero_le _) hl (Nat.le_refl _) S' fun s'' S''=>?_))
  refine wpAny_pure (wpAny_pure (h s'' ?_))
  have e:(fun y=>false || (xs.drop 0).any fun z=>decide (y = z)) = fun y=>xs.any fun z=>decide (y = z):=by funext y; simp
  rw [← e]; exact S''
set_option maxHeartbeats 3200000 in
theorem setOfLE {l:Addr} (S:Sat C σ s) (hl:(l,.lst (txts xs))∈σ) (hz:xs.length + 1 < 4096) (hh:A.handled = none)
    (h:∀ a s',Sat C ((a,stp prog w (fun y=>xs.any fun z=>decide (y = z)) (cntS (fun _=>false) 0 xs))::σ) s'→Q (.ref a) s'):wpAny (model prog w) A (call (.type "set") [.ref l]) Q E s:=by
  obtain ⟨c,tl,hmro⟩:=F.called_set.mro
  have hmade:=F.called_set.made
  have hsub:=F.called_set.sub
  refine wpAny_call (codeAny_of_tree ?_)
  show wpAny _ _ (callAny (.type "set") _) _ _ _
  refine wpAny_pure ⟨Code.quiet_builtin _ (by decide +kernel),codeAny_builtin F.entry_type_call ?_⟩
  rw [Around.under_plain (weight_type_call_type "set" [.ref l] []) rfl]
  have h1:=F.called_set.notType
  have h2:=F.called_set.canCreate
  have hct:=F.typeCall_set_1 (.ref l)
  repeat (any_goals (first | assumption | wp_step))
  refine codeAny_mono (code_set_new_1 (.ref l) (E:=E) (Q₁:=fun obj s₁=>Ex2 fun a led=>obj = .ref a∧Sat C ((a,.raw { cls:=.type "set", dict:=none,data:=.set #[] 0 (.fresh 0 0 led) })::σ) s₁)
    fun led=>⟨_,led,rfl,S.push (p:=.raw _) rfl rfl s.toks⟩) fun r s₁ hr=>?_
  cases r with
  | error e=>exact hr
  | ok fl =>
    cases fl with
    | ret obj =>
      obtain ⟨a,led,rfl,S₁⟩:=hr
      obtain ⟨oa,hoa,hpa⟩:=S₁.get (.head _)
      have hpa:oa = _:=hpa
      subst hpa
      have hT:s₁.TypeIs (.ref a) "set" := ⟨_,hoa,rfl⟩
      have hli:=F.called_set.init.lookup
      have hbi:=F.called_set.init.bind (.ref a)
      repeat (any_goals (first | assumption | wp_step))
      refine codeAny_mono (codeAny_call_builtin (R:=wants (fun r s₂=>r = .none∧Sat C ((a,stp prog w (fun y=>xs.any fun z=>decide (y = z)) (cntS (fun _=>false) 0 xs))::σ) s₂) E) F.called_set.init.plain F.entry_set_init (check_set_init_1 hT ?_)) fun r₂ s₂ hr₂=>?_
      · exact setInitE S₁ hl hz hh fun s₂ S₂=>⟨rfl,S₂⟩
      · cases r₂ with
        | error e=>exact hr₂
        | ok fl₂ =>
          cases fl₂ with
          | ret r =>
            obtain ⟨rfl,S₂⟩:=hr₂
            repeat (any_goals (first | assumption | wp_step))
            exact h _ _ S₂
          | _=>exact hr₂.elim
    | _=>exact hr.elim
end
section
variable {prog:Program} {w:World} {A:Around} {E:Value→Led→Prop} {C:Cx} {σ:Led} {l a:Addr} {P:Str→Bool} {n:Nat} {xs:List Str} {Q:Value→Led→Prop}
theorem T_setOfE (hl:(l,.lst (txts xs))∈σ) (hz:xs.length + 1 < 4096) (hh:A.handled = none) (h:∀ a,Q (.ref a) ((a,stp prog w (fun y=>xs.any fun z=>decide (y = z)) (cntS (fun _=>false) 0 xs))::σ)):T prog w C A σ (call (.type "set") [.ref l]) Q E :=
  fun _ S=>setOfLE S hl hz hh fun a _ S'=>⟨_,h a,S'⟩
theorem T_lenSt (hm:(a,stp prog w P n)∈σ) (hn:n < 4096) (h:∀ t,Q (.int n t) σ):T prog w C A σ (call (.builtin "len") [.ref a]) Q E:=fun s S=>by
  obtain ⟨o,ho,hex,es,ep,t,hd,_,_,hsz,hf⟩:=S.get hm
  subst hsz
  exact call_len_set ho hex hd hf (by wtm_at "om") ⟨_,h _,S.tok _⟩
end
theorem cntS_eq:∀ (l:List Str) (P:Str→Bool) (n:Nat) (us:List Str),(∀ y,P y = decide (y∈us))→n = us.length→cntS P n l = (l.foldl nsAdd us).length
  | [],P,n,us,_,hn=>hn
  | x::r,P,n,us,hP,hn=>by
    rw [List.foldl_cons]
    show cntS (fun y=>P y || decide (y = x)) (if P x = true then n else n + 1) r = _
    refine cntS_eq r _ _ _ (fun y=>?_) ?_
    · rw [hP,Bool.eq_iff_iff,Bool.or_eq_true,decide_eq_true_eq,decide_eq_true_eq,decide_eq_true_eq]
      exact nsAdd_mem.symm
    · rw [hP]
      unfold nsAdd
      by_cases h:x∈us
      · rw [if_pos h,if_pos (decide_eq_true h)]; exact hn
      · rw [if_neg h,if_neg (by rw [decide_eq_true_eq]; exact h),List.length_append,hn]; rfl
theorem cntS_nil (l:List Str):cntS (fun _=>false) 0 l = (l.foldl nsAdd []).length:=cntS_eq l _ _ [] (fun y=>by simp) rfl
section
variable {prog:Program} {w:World} {A:Around} {E:Value→Led→Prop} {C:Cx} {σ:Led} {l a r:Addr} {n:Nat} {Q:Value→Led→Prop}
noncomputable def upTo (n:Nat):List Int:=(List.range n).map fun (i:Nat)=>(i:Int)
theorem T_listR (hr:(r,rgp n)∈σ) (hn:n≤1000) (hh:A.handled = none) (h:∀ D,Q (.ref D) ((D,.lst (intL (upTo n)))::σ)):T prog w C A σ (call (.type "list") [.ref r]) Q E:=fun s S=>by
  obtain ⟨o,ho,a,b,c,rfl⟩:=S.get hr
  have e:Builtin.Range.rangeSize 0 n 1 = n:=by rw [rangeSize_one]; split <;> wtm_at "om"
  refine withTk (call_list_range (a:=0) (b:=n) (c:=1) (n:=n) hh ho (small_one (by decide) (by decide) (by wtm_at "om") (by wtm_at "om")) e (by wtm_at "om") fun h' tk acc c hk hD hI htk=>?_) S.tk
  refine ⟨_,h _,S.grow (p:=.lst _) hk (Nat.le_refl _) hD ⟨acc,c,rfl,?_⟩ tk htk⟩
  obtain ⟨hl,hi⟩:=hI
  apply List.ext_getElem?
  intro i
  unfold intL upTo
  rw [List.getElem?_map,List.getElem?_map,List.getElem?_map,Array.getElem?_toList]
  cases hv:acc[i]? with
  | none =>
    rw [Array.getElem?_eq_none_iff] at hv
    rw [List.getElem?_eq_none (by rw [List.length_range]; wtm_at "om")]; rfl
  | some v =>
    obtain ⟨t,rfl⟩:=hi i v hv
    have hlt:=(Array.getElem?_eq_some_iff.mp hv).1
    rw [List.getElem?_range (by wtm_at "om")]
    show some (Value.int _ 0) = some (Value.int _ 0)
    simp
end
section
variable {prog:Program} {w:World} {C:Cx} {A:Around} {ρ:Led} {L:Addr} {m:List (Str × Value)}
theorem law_4 {Q:Flow→Led→Prop} {text hd p0:Str} {ps:List Str} {Ps:List Part} {ds:List (Str × Nat)} (hK:C.K = KK w.params) (R:Rm 40 A) (l1:m.lookup (Str.ofString "text") = some (.str text 0)) (hz:text.length≤100000)
    (hs1:(Txt.split text (Str.ofString ">")).length≤1000) (h0:(txts (Txt.split text (Str.ofString ">")))[0]? = some (.str hd 0)) (hhl:hd.length≤100000) (hsp:Txt.split hd (Str.ofString " ") = p0::ps) (hP:PartsOk ps Ps) (hn:ps.length≤1000) (hds:numD [] Ps = kvD ds)
    (h:∀ N Rr refs tx,prs tx refs ((rowL Ps).map atp)→T prog w C A ((Rr,.lst refs)::(N,dcp prog w (kvD ds))::(L,.ns ((Str.ofString "row", .ref Rr)::m))::(L + 1 + 1,.cel (some (.ref N)))::(tx ++ ρ)) (execs (lawB.drop 7) (lawEnv L)) Q NoE) :
    T prog w C A ((L,.ns m)::(L + 1 + 1,.cel none)::ρ) (execs (lawB.drop 6) (lawEnv L)) Q NoE:=by
  refine T_cons ?_
  refine T_AssignS ?_ (by exact rfl) (by exact rfl)
  wtm_at "t_run"
  refine T_places hK (R.le (by decide)) hz hs1 h0 hhl hsp hP hn fun TT N Rr refs tx hp=>?_
  refine T.perm (σ':=(TT,.tup [.ref N,.ref Rr])::(Rr,.lst refs)::(N,dcp prog w (numD [] Ps))::(L,.ns m)::(L + 1 + 1,.cel none)::(tx ++ ρ)) ?_ ((List.Perm.cons _ (List.Perm.cons _ (List.Perm.cons _ (List.perm_append_comm_assoc tx [_,_] ρ)))))
  refine T_assignAll1 (T_assignUT R.hand (.head _) rfl rfl rfl ?_)
  rw [hds]
  change T _ _ _ _ _ (assign _ _ (.ref N)) _ _
  wtm_at "t_run"
  change T _ _ _ _ _ (assign _ _ (.ref Rr)) _ _
  wtm_at "t_run"
  refine UA_nil ?_
  exact T.drop (h N Rr refs tx hp) (List.sublist_cons_self _ _)
theorem law_5 {Q:Flow→Led→Prop} {text:Str} {addrs:List Str} {ds:List (Str × Nat)} {qs:List (Nat × Str)} {refs:List Value} {Rr N la:Addr} (hK:C.K = KK w.params) (R:Rm 40 A) (l1:m.lookup (Str.ofString "text") = some (.str text 0)) (l2:m.lookup (Str.ofString "addresses") = some (.ref la)) (l3:m.lookup (Str.ofString "row") = some (.ref Rr))
    (hla:(la,.lst (txts addrs))∈ρ) (hp:prs ρ refs ((rwQ qs).map atp)) (ha:addrs.length≤100) (h1:∀ p∈ds,p.1.length≤1000∧p.2 < 1000) (h2:∀ q∈qs,q.1 < ds.length∧q.2.length≤1000) (hn:ds.length≤100) (hm:qs.length≤100)
    (hv:ds.map (fun p=>(p.2:Int)) = upTo (addrs.foldl nsAdd []).length) (hw:wholeT ds qs = text)
    (h:T prog w C A ((Rr,.lst refs)::(N,dcp prog w (kvD ds))::(L,.ns m)::(L + 1 + 1,.cel (some (.ref N)))::ρ) (execs (lawB.drop 8) (lawEnv L)) Q NoE) :
    T prog w C A ((Rr,.lst refs)::(N,dcp prog w (kvD ds))::(L,.ns m)::(L + 1 + 1,.cel (some (.ref N)))::ρ) (execs (lawB.drop 7) (lawEnv L)) Q NoE:=by
  have hkl:(kvD ds).length = ds.length:=by unfold kvD; rw [List.length_map]
  have hdl:ds.length = (addrs.foldl nsAdd []).length:=by
    have:=congrArg List.length hv
    unfold upTo at this
    rw [List.length_map,List.length_map,List.length_range] at this
    exact this
  refine T_cons ?_
  wtm_at "t_run"
  refine T_gmValues (by wtm_at "r_mem") ?_
  wtm_at "t_run"
  refine T_values (by wtm_at "r_mem") fun V=>?_
  wtm_at "t_run"
  refine T_listVals (.head _) (by wtm_at "r_mem") R.hand (by wtm_at "om") fun D1=>?_
  wtm_at "t_run"
  refine T_setOfE (xs:=addrs) (by repeat (first | exact hla | apply List.Mem.tail)) (by wtm_at "om") R.hand fun a=>?_
  rw [cntS_nil]
  wtm_at "t_run"
  refine T_lenSt (.head _) (by wtm_at "om") fun _=>?_
  wtm_at "t_run"
  refine T_range rfl fun r=>?_
  wtm_at "t_run"
  refine T_listR (.head _) (by wtm_at "om") R.hand fun D2=>?_
  wtm_at "t_run"
  have hvs:(kvD ds).map (fun x=>x.2) = intL (ds.map fun p=>(p.2:Int)):=by unfold kvD intL; rw [List.map_map,List.map_map]; rfl
  have hul:(upTo (addrs.foldl nsAdd []).length).length = (addrs.foldl nsAdd []).length:=by unfold upTo; rw [List.length_map,List.length_range]
  refine T_neG (vs:=(kvD ds).map (·.2)) (us:=intL (upTo (addrs.foldl nsAdd []).length)) (xs:=ds.map fun p=>(p.2:Int)) (ys:=upTo (addrs.foldl nsAdd []).length) (by wtm_at "r_mem") (.head _) (by rw [List.length_map,List.length_map,hkl]) (by unfold intL; rw [List.length_map]) (by have:=R.line; wtm_at "om") (by rw [hvs]; exact tellI) ?_
  rw [hv,decide_eq_false (by simp)]
  wtm_at "t_run"
  refine T_whole (ds:=ds) (qs:=qs) hK (R.le (by decide)) (by wtm_at "r_mem") (by wtm_at "r_mem") (hp.mono fun _ h=>by repeat (first | exact h | apply List.Mem.tail)) h1 h2 hn hm fun _=>?_
  rw [hw]
  wtm_at "t_run"
  rw [show (text.cps.toList != text.cps.toList) = false from by simp]
  refine ifF rfl (T_tOr0 (ifF rfl (T_nil (T.drop h ?_))))
  iterate 5 apply List.Sublist.cons
  exact List.Sublist.refl _
end
theorem Upd.mem_ne {a b:Addr} {p p' q:PO} {τ τ':Led} (U:Upd a p p' τ τ') (h:(b,q)∈τ) (hb:b ≠ a):(b,q)∈τ':=by
  induction U with
  | head =>
    rcases List.mem_cons.mp h with h | h
    · exact absurd (congrArg Prod.fst h) hb
    · exact .tail _ h
  | tail _ ih =>
    rcases List.mem_cons.mp h with h | h
    · rw [h]; exact .head _
    · exact .tail _ (ih h)
noncomputable def plN (f:Str→Nat) (N:List (Str × Str)):List (At × At):=N.map fun p=>(.i (f p.1),.s p.2)
section
variable {prog:Program} {w:World} {C:Cx} {A:Around} {ρ:Led} {L:Addr} {m:List (Str × Value)}
theorem law_6 {Q:Flow→Led→Prop} {N:List (Str × Str)} {f:Str→Nat} {ds:List (Str × Nat)} {qs:List (Nat × Str)} {refs:List Value} {Rr Nn ad:Addr} (hK:C.K = KK w.params) (R:Rm 40 A) (l1:m.lookup (Str.ofString "attrs") = some (.ref ad)) (l3:m.lookup (Str.ofString "row") = some (.ref Rr))
    (had:(ad,dcp prog w (kvN N))∈ρ) (hp:prs ρ refs ((rwQ qs).map atp)) (hf:∀ p∈N,valueAt (kvD ds) (spell p.1) = some (.int (f p.1) 0)) (hs:∀ p∈N,Txt.slice (nm p) (some ((p.1.length:Int) + 2)) none = p.2) (hc:∀ p∈N,p.1.cps.all (· < 128) = true∧p.1.length≤20∧(nm p).length≤1000)
    (hperm:(rwQ qs).Perm (plN f N)) (hnd:(rwQ qs).Nodup) (hne:N ≠ []) (h64:N.length < 64)
    (h:T prog w C A ((Rr,.lst refs)::(Nn,dcp prog w (kvD ds))::(L,.ns m)::(L + 1 + 1,.cel (some (.ref Nn)))::ρ) (execs (lawB.drop 9) (lawEnv L)) Q NoE) :
    T prog w C A ((Rr,.lst refs)::(Nn,dcp prog w (kvD ds))::(L,.ns m)::(L + 1 + 1,.cel (some (.ref Nn)))::ρ) (execs (lawB.drop 8) (lawEnv L)) Q NoE:=by
  refine T.nd fun nd=>?_
  have hadm:ad∈ρ.map (·.1):=List.mem_map_of_mem had
  simp only [List.map_cons,List.nodup_cons,List.mem_cons,not_or] at nd
  obtain ⟨⟨_,_,_,nd0⟩,⟨_,_,nd1⟩,⟨_,nd2⟩,nd3,_⟩:=nd
  have ne1:Nn ≠ ad:=fun e=>nd1 (e ▸ hadm)
  have ne3:L + 1 + 1 ≠ ad:=fun e=>nd3 (e ▸ hadm)
  have hql:(rwQ qs).length = N.length:=by rw [hperm.length_eq]; unfold plN; rw [List.length_map]
  have hK1:Kin1 (rwQ qs):=by
    intro p hp q hq
    unfold rwQ at hp hq
    obtain ⟨p,_,rfl⟩:=List.mem_map.mp hp
    obtain ⟨q,_,rfl⟩:=List.mem_map.mp hq
    exact ⟨rfl,rfl⟩
  have hK2:Kin1 (plN f N):=fun p hp q hq=>hK1 p (hperm.mem_iff.mpr hp) q (hperm.mem_iff.mpr hq)
  refine T_cons ?_
  wtm_at "t_run"
  refine T_sortedP (by wtm_at "r_mem") hK1 hnd (fun e=>hne (List.length_eq_zero_iff.mp (by rw [← hql,e]; rfl))) (by wtm_at "om") (hp.mono fun _ h=>by repeat (first | exact h | apply List.Mem.tail)) fun D1 vs1 q1 g1 g2 g3=>?_
  wtm_at "t_run"
  refine' T_LCg _ ?lc1 ?lc2 ?lc3 ?_ ?lc5
  case lc1=>exact rfl
  case lc2=>rfl
  case lc3=>decide
  case lc5=>intro _; rfl
  wtm_at "t_run"
  refine T_gmItems (d:=ad) (kvs:=kvN N) (by repeat (first | exact had | apply List.Mem.tail)) ?_
  wtm_at "t_run"
  refine T_items (d:=ad) (kvs:=kvN N) (by repeat (first | exact had | apply List.Mem.tail)) fun V2=>?_
  refine T_iterItems (kvs:=kvN N) (.head _) (by repeat (first | exact had | apply List.Mem.tail)) fun it ep σ' U=>?_
  have mN:(Nn,dcp prog w (kvD ds))∈σ':=U.mem_ne (by wtm_at "r_mem") ne1
  have mC:(L + 1 + 1,PO.cel (some (.ref Nn)))∈σ':=U.mem_ne (by wtm_at "r_mem") ne3
  have hkn:(kvN N).length = N.length:=by unfold kvN; rw [List.length_map]
  refine' T_compP (po:=fun i=>[(it,itm ad i (kvN N).length ep)]) (drwD R.hand) R.hand (fun r ys τ=>Ex2 fun k tx=>Al3 (r = ((kvN N).map fun p=>((.str p.1 0,p.2):Value × Value)).drop k) (prs tx ys ((plN f (N.take k)).map atp)) (τ = tx ++ σ')) ?u0 ?un ?uz ?v1 ?v2 ?v3 ?v4 ?ut ?uf (fun q τ h=>.tail _ h)
  case v1=>rfl
  case v2=>rfl
  case v3=>rfl
  case v4=>decide
  case u0=>exact ⟨0,[],rfl,.nil,rfl⟩
  case un=>rintro r ys τ ⟨k,tx,_,_,rfl⟩; exact List.mem_append_right _ U.symm.mem
  case uz =>
    rintro r ys τ ⟨k,tx,_,hpr,_⟩
    have:=hpr.len
    unfold plN at this
    rw [List.length_map,List.length_map,List.length_take] at this; wtm_at "om"
  case ut =>
    rintro D' L' p r ys τ i m' ⟨k,tx,hr,hpr,rfl⟩
    refine T_t0 ?_
    refine T.wk ?_
    obtain ⟨hlt,rfl,rfl,htk⟩:=drop_at (f:=fun p:Str × Str=>((.str (nm p) 0,.str p.1 0):Value × Value)) (l:=N) (b:=p) (r:=r) (by rw [hr]; unfold kvN; rw [List.map_map,List.map_drop]; rfl)
    have hgm:=List.getElem_mem hlt
    generalize N[k] = g at *
    obtain ⟨c1,c2,c3⟩:=hc g hgm
    have hsg:=hs g hgm
    dsimp only [er,List.cons_append,List.nil_append]
    wtm_at "t_run"
    refine T_Name (T_ldC (by rfl) (by rfl) (by rfl) (c:=L + 1 + 1) (.tail _ (.tail _ (.tail _ (List.mem_append_right _ mC)))) ?_)
    wtm_at "t_vs"
    wtm_at "t_run"
    refine T_spelled hK (R.le (by decide)) c1 (by wtm_at "om") fun _=>?_
    refine T_itemD (kvs:=kvD ds) (.tail _ (.tail _ (.tail _ (List.mem_append_right _ mN)))) (hf g hgm) ?_
    wtm_at "t_vs"
    wtm_at "t_run"
    refine T_lenS (by wtm_at "om") fun _=>?_
    wtm_at "t_run"
    refine T_slcS (lo:=some (((g.1.length:Int) + 2),_)) (hi:=none) (.head _) rfl rfl (Nat.le_trans c3 (by decide)) fun _=>?_
    dsimp only [Option.map_none,Option.map_some]
    rw [hsg]
    wtm_at "t_run"
    refine ⟨_,fun s S=>(S.sub (.cons_cons _ (.cons _ (List.Sublist.refl _)))).perm (List.perm_middle (l₁:=[_,_,_])).symm,_,⟨k + 1,(_,.tup [.int (f g.1) 0,.str g.2 0])::tx,?_,?_,rfl⟩,List.Sublist.refl _⟩
    · unfold kvN; rw [List.map_map,List.map_drop]; rfl
    · rw [htk]
      unfold plN at hpr ⊢
      rw [List.map_append,List.map_append]
      exact (hpr.mono fun _ h=>.tail _ h).app (.cons (.head _) .nil)
  case uf =>
    rintro ys τ ⟨k,tx,hr,hpr,rfl⟩
    have hk:N.length≤k:=by
      have:=congrArg List.length hr
      rw [List.length_nil,List.length_drop,List.length_map] at this
      wtm_at "om"
    rw [List.take_of_length_le hk] at hpr
    intro D2
    refine T.weakU (.tail (U.symm.app tx)) (fun o=>dceo_dco) ?_
    wtm_at "t_run"
    refine T_sortedP (.head _) hK2 (hperm.nodup_iff.mp hnd) (fun e=>hne (List.length_eq_zero_iff.mp (by rw [← hql,hperm.length_eq,e]; rfl))) (by rw [← hperm.length_eq,hql]; exact h64) (hpr.mono fun _ h=>.tail _ (List.mem_append_left _ h)) fun D3 vs3 q3 k1 k2 k3=>?_
    have hqq:q1 = q3:=sorted_unique (lex_ord at_ord at_ord) g2 k2 (g1.trans (hperm.trans k1.symm))
    subst hqq
    wtm_at "t_run"
    have up:∀ x,x∈(V2,vwO "dict_items" ad)::(D1,PO.lst vs1)::(Rr,PO.lst refs)::(Nn,dcp prog w (kvD ds))::(L,PO.ns m)::(L + 1 + 1,PO.cel (some (.ref Nn)))::ρ→x∈(D3,PO.lst vs3)::(D2,PO.lst ys)::(tx ++ ((V2,vwO "dict_items" ad)::(D1,PO.lst vs1)::(Rr,PO.lst refs)::(Nn,dcp prog w (kvD ds))::(L,PO.ns m)::(L + 1 + 1,PO.cel (some (.ref Nn)))::ρ)) :=
      fun x hx=>.tail _ (.tail _ (List.mem_append_right _ hx))
    refine T_neG (vs:=vs1) (us:=vs3) (xs:=q1) (ys:=q1) (up _ (.tail _ (.head _))) (.head _) (by rw [g3.len,List.length_map]) (by rw [k3.len,List.length_map]) (by have:=R.line; wtm_at "om")
      (tellP (by have:=R.line; show A.units + 1 < _; wtm_at "om") (g3.mono fun _ h=>up _ (.tail _ (.tail _ h))) (k3.mono fun _ h=>.tail _ h) fun p hp q hq=>hK1 p (g1.mem_iff.mp hp) q (g1.mem_iff.mp hq)) ?_
    rw [decide_eq_false (by simp)]
    refine T_trB (ifF rfl (T_nil (T.drop h ?_)))
    exact .cons _ (.cons _ ((List.Sublist.cons _ (List.Sublist.cons _ (List.Sublist.refl _))).trans (List.sublist_append_right tx _)))
end
structure MRec where
  (x d r:Addr) (fs:List (Str × Value))
noncomputable def MRec.led (c:MRec) (v:List Value):Led:=[(c.r,.lst v),(c.x,.ins 76 c.d),(c.d,.idc c.fs)]
structure MRec.Ok (c:MRec):Prop where
  r:c.fs.lookup (Str.ofString "rulelines") = some (.ref c.r)
  a:c.fs.lookup (Str.ofString "allowance") = none
section
variable {prog:Program} {w:World} {C:Cx} {A:Around} {ρ:Led} {L:Addr} {m:List (Str × Value)}
theorem law_7 {Q:Flow→Led→Prop} {a:LA} {v0 v1:List Value} (hK:C.K = KK w.params) (R:Rm 40 A) (l1:m.lookup (Str.ofString "halves") = some (.ref a.lh)) (h1:(a.lh,.lst [.ref a.e0,.ref a.e1])∈ρ)
    (h2:(a.e0,.ins 76 a.d0)∈ρ) (h3:(a.d0,.idc (entryF a.u0 a.r0))∈ρ) (h4:(a.u0,.lst [])∈ρ) (h5:(a.r0,.lst v0)∈ρ) (g2:(a.e1,.ins 76 a.d1)∈ρ) (g3:(a.d1,.idc (entryF a.u1 a.r1))∈ρ) (g4:(a.u1,.lst [])∈ρ) (g5:(a.r1,.lst v1)∈ρ) (hz:v0.length + v1.length≤1000)
    (h:∀ (Rc:Addr) (c1 c2:MRec),c1.Ok→c2.Ok→T prog w C A ((L,.ns ((Str.ofString "records", .ref Rc)::m))::(Rc,.lst [.ref c1.x,.ref c2.x])::(c2.led (v1 ++ v0) ++ (c1.led (v0 ++ v1) ++ ρ))) (execs (lawB.drop 10) (lawEnv L)) Q NoE) :
    T prog w C A ((L,.ns m)::ρ) (execs (lawB.drop 9) (lawEnv L)) Q NoE:=by
  refine T_cons ?_
  wtm_at "t_run"
  refine T_itemL (pv:=.ref a.e0) (by repeat (first | exact h1 | apply List.Mem.tail)) (by decide) (by decide) rfl ?_
  wtm_at "t_vs"
  wtm_at "t_run"
  refine T_itemL (pv:=.ref a.e1) (by repeat (first | exact h1 | apply List.Mem.tail)) (by decide) (by decide) rfl ?_
  wtm_at "t_vs"
  wtm_at "t_run"
  refine T_merge (hs:=[]) (xs:=v0) (ys:=v1) hK (R.le (by decide)) (by repeat (first | exact h2 | apply List.Mem.tail)) (by repeat (first | exact h3 | apply List.Mem.tail)) (by repeat (first | exact h4 | apply List.Mem.tail)) (by repeat (first | exact h5 | apply List.Mem.tail)) (by repeat (first | exact g2 | apply List.Mem.tail)) (by repeat (first | exact g3 | apply List.Mem.tail)) (by repeat (first | exact g4 | apply List.Mem.tail)) (by repeat (first | exact g5 | apply List.Mem.tail)) (by wtm_at "om") (by decide) fun x1 d1 r1 fs1 e1 e2=>?_
  wtm_at "t_run"
  refine T_itemL (pv:=.ref a.e1) (by repeat (first | exact h1 | apply List.Mem.tail)) (by decide) (by decide) rfl ?_
  wtm_at "t_vs"
  wtm_at "t_run"
  refine T_itemL (pv:=.ref a.e0) (by repeat (first | exact h1 | apply List.Mem.tail)) (by decide) (by decide) rfl ?_
  wtm_at "t_vs"
  wtm_at "t_run"
  refine T_merge (hs:=[]) (xs:=v1) (ys:=v0) hK (R.le (by decide)) (by repeat (first | exact g2 | apply List.Mem.tail)) (by repeat (first | exact g3 | apply List.Mem.tail)) (by repeat (first | exact g4 | apply List.Mem.tail)) (by repeat (first | exact g5 | apply List.Mem.tail)) (by repeat (first | exact h2 | apply List.Mem.tail)) (by repeat (first | exact h3 | apply List.Mem.tail)) (by repeat (first | exact h4 | apply List.Mem.tail)) (by repeat (first | exact h5 | apply List.Mem.tail)) (by wtm_at "om") (by decide) fun x2 d2 r2 fs2 e3 e4=>?_
  repeat (first | (fail_if_success (with_reducible show T _ _ _ _ _ (execs _ _) _ _)); first | wtm_at "t_sev" | (dsimp only; fail_if_success (with_reducible show T _ _ _ _ _ (execs _ _) _ _); wtm_at "t_sev") | (dsimp only [List.cons_append,List.nil_append,List.map_cons,List.map_nil,er]; wtm_at "t_sev"))
  exact T.perm (h _ ⟨x1,d1,r1,fs1⟩ ⟨x2,d2,r2,fs2⟩ ⟨e1,e2⟩ ⟨e3,e4⟩) (List.perm_middle (l₁:=[_,_,_,_,_,_,_]))
end
noncomputable def EntAt (C:Cx) (τ:Led) (v:Value) (rs:List Rule):Prop:=Ex5 fun x d fs r vs=>Al8 (v = .ref x) ((x,PO.ins 76 d)∈τ) ((d,PO.idc fs)∈τ) (fs.lookup (Str.ofString "rulelines") = some (.ref r)) ((r,PO.lst vs)∈τ) (rls C τ vs rs) (rs.length≤100) (fs.lookup (Str.ofString "allowance") = none)
theorem EntAt.mono {C:Cx} {τ τ':Led} {v:Value} {rs:List Rule} (h:EntAt C τ v rs) (hs:∀ x∈τ,x∈τ'):EntAt C τ' v rs:=by
  obtain ⟨x,d,fs,r,vs,e,h1,h2,h3,h4,h5,h6,h7⟩:=h
  exact ⟨x,d,fs,r,vs,e,hs _ h1,hs _ h2,h3,hs _ h4,h5.mono hs fun _ h=>h,h6,h7⟩
theorem rls.zip {C:Cx} {τ:Led} {vs:List Value} {rs:List Rule} (h:rls C τ vs rs):∀ b∈vs.zip rs,RuleAt C τ b.1 b.2:=by
  induction h with
  | nil=>intro b hb; cases hb
  | cons h _ ih =>
    intro b hb
    rw [List.zip_cons_cons] at hb
    rcases List.mem_cons.mp hb with rfl | hb
    · exact h
    · exact ih b hb
theorem nst.mono {τ τ':Led} {vs:List Value} {ps:List (List Int)} (h:nst τ vs ps) (hs:∀ x∈τ,x∈τ'):nst τ' vs ps:=by
  induction h with
  | nil=>exact .nil
  | cons h _ ih=>exact .cons (hs _ h) ih
theorem nst.app {τ:Led} {vs vs':List Value} {ps ps':List (List Int)} (h:nst τ vs ps) (h':nst τ vs' ps'):nst τ (vs ++ vs') (ps ++ ps'):=by
  induction h with
  | nil=>exact h'
  | cons h _ ih=>exact .cons h ih
noncomputable def markL (rs:List Rule):List Int:=rs.map (·.mark)
section
variable {prog:Program} {w:World} {C:Cx} {A:Around} {ρ:Led} {L:Addr} {m:List (Str × Value)}
theorem law_8 {Q:Flow→Led→Prop} {lh Rc:Addr} {es:List (Value × List Rule)} {x1 x2 x3 x4:Value} {rs1 rs2 rs3 rs4:List Rule} (hK:C.K = KK w.params) (R:Rm 40 A) (l1:m.lookup (Str.ofString "halves") = some (.ref lh)) (l2:m.lookup (Str.ofString "records") = some (.ref Rc))
    (h1:(lh,.lst [x3,x4])∈ρ) (h2:(Rc,.lst [x1,x2])∈ρ) (e1:EntAt C ρ x1 rs1) (e2:EntAt C ρ x2 rs2) (e3:EntAt C ρ x3 rs3) (e4:EntAt C ρ x4 rs4) (hes:es = [(x1,rs1),(x2,rs2),(x3,rs3),(x4,rs4)])
    (h:∀ D tx ys,nst tx ys [markL rs1,markL rs2,markL rs3,markL rs4]→T prog w C A ((L,.ns ((Str.ofString "told", .ref D)::m))::(D,.lst ys)::(tx ++ ρ)) (execs (lawB.drop 11) (lawEnv L)) Q NoE) :
    T prog w C A ((L,.ns m)::ρ) (execs (lawB.drop 10) (lawEnv L)) Q NoE:=by
  refine T_cons ?_
  wtm_at "t_lc"
  wtm_at "t_run"
  refine T_addL (xs:=[x1,x2]) (ys:=[x3,x4]) (by repeat (first | exact h2 | apply List.Mem.tail)) (by repeat (first | exact h1 | apply List.Mem.tail)) (Nat.le_of_ble_eq_true rfl) fun D1=>?_
  wtm_at "t_run"
  refine T_iterL (.head _) fun it=>?_
  have hE:∀ p∈es,EntAt C ρ p.1 p.2:=by
    subst hes
    intro p hp
    simp only [List.mem_cons,List.not_mem_nil,or_false] at hp
    rcases hp with rfl | rfl | rfl | rfl
    · exact e1
    · exact e2
    · exact e3
    · exact e4
  have hx:[x1,x2] ++ [x3,x4] = es.map (·.1):=by subst hes; rfl
  rw [hx]
  generalize hτ:((D1,PO.lst (es.map (·.1)))::(L,.ns m)::ρ:Led) = τ0
  have hin:∀ x∈ρ,x∈τ0:=fun x hx=>by rw [← hτ]; exact .tail _ (.tail _ hx)
  have hD1:(D1,PO.lst (es.map (·.1)))∈τ0:=by rw [← hτ]; exact .head _
  refine' compU (itsL R.hand) (fun r ys τ=>Ex2 fun k tx=>Al4 (r = (es.map (·.1)).drop k) (nst tx ys ((es.take k).map fun p=>markL p.2)) (ys.length≤k) (τ = tx ++ τ0)) ?u0 ?un ?uz ?v1 ?v2 ?v3 ?ut ?uf
  case v1=>rfl
  case v2=>rfl
  case v3=>decide
  case u0=>exact ⟨0,[],rfl,.nil,Nat.le_refl _,rfl⟩
  case un=>rintro r ys τ ⟨k,tx,_,_,_,rfl⟩; exact List.mem_append_right _ hD1
  case uz =>
    rintro r ys τ ⟨k,tx,_,hn,_,_⟩
    have:=hn.len
    rw [List.length_map,List.length_take] at this
    subst hes
    have : ys.length≤4:=by rw [this]; exact Nat.min_le_right _ _
    wtm_at "om"
  case ut =>
    rintro D L2 pv r ys τ i m2 ⟨k,tx,hr,hn,hk,rfl⟩
    refine T_t0 ?_
    refine T.wk ?_
    obtain ⟨hlt,rfl,rfl⟩:=drop_cm hr
    have htk:=List.take_succ_eq_append_getElem hlt
    obtain ⟨x,d,fs,rl,vs,e,q1,q2,q3,q4,q5,q6,_⟩:=hE _ (List.getElem_mem hlt)
    generalize es[k] = g at *
    obtain ⟨gv,rs⟩:=g
    dsimp only at e q5 q6 ⊢
    subst e
    have up:∀ y∈ρ,y∈(it,itr D1 i)::(L2,PO.ns ((Str.ofString "entry", .ref x)::m2))::(D,PO.lst ys)::(tx ++ τ0):=fun y hy=>.tail _ (.tail _ (.tail _ (List.mem_append_right _ (hin _ hy))))
    have hvl:=q5.len
    wtm_at "t_lc"
    wtm_at "t_run"
    refine T_getA (up _ q1) (up _ q2) (by wtm_at "r_cls") q3 rfl ?_
    wtm_at "t_vs"
    refine T_iterL (up _ q4) fun it2=>?_
    have hz:(vs.zip rs).map (·.1) = vs:=List.map_fst_zip (by wtm_at "om")
    refine T_comp1 (need:=fun τ=>(rl,PO.lst vs)∈τ) (vs.zip rs) (·.1) (fun p=>some (.int p.2.mark 0)) (by rw [hz]; exact itsL R.hand) (up _ q4) (by rw [List.length_zip]; wtm_at "om") rfl rfl (by decide) ?_ ?_
    · intro σ₀ L3 m3 b hb hm hτ
      refine T_t0 ?_
      obtain ⟨x',d',f',c1,c2,fr,e',g1,g2,g3,_⟩:=q5.zip b hb
      obtain ⟨b1,b2⟩:=b
      dsimp only at e' g3 ⊢
      subst e'
      wtm_at "t_run"
      refine T_getA (hτ _ (up _ g1)) (hτ _ (up _ g2)) (by wtm_at "r_cls") g3 rfl ?_
      exact fun _=>⟨rfl,List.Sublist.refl _⟩
    intro D3
    have hmk:(vs.zip rs).filterMap (fun p=>some (Value.int p.2.mark 0)) = intL (markL rs):=by
      rw [List.filterMap_eq_map',show (fun p:Value × Rule=>Value.int p.2.mark 0) = (fun z:Int=>Value.int z 0) ∘ (fun r:Rule=>r.mark) ∘ Prod.snd from rfl,← List.map_map,← List.map_map,List.map_snd_zip (by wtm_at "om")]
      rfl
    rw [hmk]
    refine ⟨_,fun s S=>S.perm (List.perm_middle (l₁:=[_,_,_])).symm,_,⟨k + 1,(D3,.lst (intL (markL rs)))::tx,rfl,?_,by rw [List.length_append]; exact Nat.succ_le_succ hk,rfl⟩,List.Sublist.refl _⟩
    rw [htk,List.map_append]
    exact (hn.mono fun _ h=>.tail _ h).app (.cons (.head _) .nil)
  case uf =>
    rintro ys τ ⟨k,tx,hr,hn,_,rfl⟩
    have hk:es.length≤k:=by
      have:=congrArg List.length hr
      rw [List.length_nil,List.length_drop,List.length_map] at this
      wtm_at "om"
    rw [List.take_of_length_le hk] at hn
    intro L2 D2 m2
    subst hτ
    refine T_assignN (T_stL (.tail (.tail ((Upd.tail .head).app tx))) (by rfl) (by rfl) ?_)
    refine ⟨m2,_,List.Sublist.refl _,?_⟩
    subst hes
    refine T.drop (σ':=(D2,.lst ys)::(tx ++ (L,.ns ((Str.ofString "told", .ref D2)::m))::ρ)) ?_ (.cons_cons _ ((List.sublist_cons_self _ _).append_left tx))
    exact T.perm (h D2 tx ys hn) (List.perm_middle (l₁:=(D2,PO.lst ys)::tx))
end
section
variable {prog:Program} {w:World} {C:Cx} {A:Around} {ρ:Led} {L:Addr} {m:List (Str × Value)}
theorem law_9 {Q:Flow→Led→Prop} {D lm k0 k1:Addr} {ys:List Value} {z0 z1:List Int} (hK:C.K = KK w.params) (R:Rm 40 A) (l1:m.lookup (Str.ofString "told") = some (.ref D)) (l2:m.lookup (Str.ofString "marks") = some (.ref lm))
    (h1:(D,.lst ys)∈ρ) (h2:(lm,.lst [.ref k0,.ref k1])∈ρ) (h3:(k0,.lst (intL z0))∈ρ) (h4:(k1,.lst (intL z1))∈ρ) (hn:nst ρ ys [z0 ++ z1,z1 ++ z0,z0,z1]) (g0:z0.length≤100) (g1:z1.length≤100)
    (h:T prog w C A ((L,.ns m)::ρ) (execs (lawB.drop 12) (lawEnv L)) Q NoE) :
    T prog w C A ((L,.ns m)::ρ) (execs (lawB.drop 11) (lawEnv L)) Q NoE:=by
  have i0:(intL z0).length = z0.length:=List.length_map ..
  have i1:(intL z1).length = z1.length:=List.length_map ..
  refine T_cons ?_
  wtm_at "t_run"
  refine T_itemL (pv:=.ref k0) (by repeat (first | exact h2 | apply List.Mem.tail)) (by decide) (by decide) rfl ?_
  wtm_at "t_vs"
  wtm_at "t_run"
  refine T_itemL (pv:=.ref k1) (by repeat (first | exact h2 | apply List.Mem.tail)) (by decide) (by decide) rfl ?_
  wtm_at "t_vs"
  refine T_addL (xs:=intL z0) (ys:=intL z1) (by repeat (first | exact h3 | apply List.Mem.tail)) (by repeat (first | exact h4 | apply List.Mem.tail)) (by wtm_at "om") fun M1=>?_
  wtm_at "t_run"
  refine T_itemL (pv:=.ref k1) (by repeat (first | exact h2 | apply List.Mem.tail)) (by decide) (by decide) rfl ?_
  wtm_at "t_vs"
  wtm_at "t_run"
  refine T_itemL (pv:=.ref k0) (by repeat (first | exact h2 | apply List.Mem.tail)) (by decide) (by decide) rfl ?_
  wtm_at "t_vs"
  refine T_addL (xs:=intL z1) (ys:=intL z0) (by repeat (first | exact h4 | apply List.Mem.tail)) (by repeat (first | exact h3 | apply List.Mem.tail)) (by wtm_at "om") fun M2=>?_
  wtm_at "t_run"
  rename_i D2
  refine T_addL (xs:=[.ref M1,.ref M2]) (ys:=[.ref k0,.ref k1]) (.head _) (by repeat (first | exact h2 | apply List.Mem.tail)) (Nat.le_of_ble_eq_true rfl) fun D3=>?_
  have a0:intL z0 ++ intL z1 = intL (z0 ++ z1):=List.map_append.symm
  have a1:intL z1 ++ intL z0 = intL (z1 ++ z0):=List.map_append.symm
  have up:∀ y∈ρ,y∈(D3,PO.lst ([.ref M1,.ref M2] ++ [.ref k0,.ref k1]))::(D2,PO.lst [.ref M1,.ref M2])::(M2,PO.lst (intL z1 ++ intL z0))::(M1,PO.lst (intL z0 ++ intL z1))::(L,PO.ns m)::ρ:=fun y hy=>.tail _ (.tail _ (.tail _ (.tail _ (.tail _ hy))))
  refine T_neG (vs:=ys) (us:=[.ref M1,.ref M2,.ref k0,.ref k1]) (xs:=[z0 ++ z1,z1 ++ z0,z0,z1]) (ys:=[z0 ++ z1,z1 ++ z0,z0,z1]) (up _ h1) (.head _) hn.len rfl (by have:=R.line; wtm_at "om")
    (tellN (by have:=R.line; show A.units + 1 < _; wtm_at "om") (hn.mono up) (.cons (by rw [← a0]; wtm_at "r_mem") (.cons (by rw [← a1]; wtm_at "r_mem") (.cons (up _ h3) (.cons (up _ h4) .nil))))) ?_
  rw [decide_eq_false (by simp)]
  refine T_trB (ifF rfl (T_nil (T.drop h ?_)))
  iterate 4 apply List.Sublist.cons
  exact List.Sublist.refl _
end
theorem prs.drop {τ:Led} {vs:List Value} {ps:List (Value × Value)} (h:prs τ vs ps):∀ k,prs τ (vs.drop k) (ps.drop k):=by
  induction h with
  | nil=>intro k; rw [List.drop_nil,List.drop_nil]; exact .nil
  | cons h r ih =>
    intro k
    cases k with
    | zero=>exact .cons h r
    | succ k=>exact ih k
noncomputable def wordsOf (own:Nat) (qs:List (Nat × Str)):List Str:=(qs.filter fun q=>decide (q.1≤own) && (q.2.cps.toList != wordA.cps.toList)).map (·.2)
noncomputable def dueOf (ws:List Str):Bool:=match ws with | []=>true | x::_=>x.cps.toList == (Str.ofString "Allow").cps.toList
theorem fm_if {α:Type} (c:α→Bool) (v:α→Str) (l:List α):l.filterMap (fun q=>if c q = true then some (Value.str (v q) 0) else none) = txts ((l.filter c).map v):=by
  induction l with
  | nil=>rfl
  | cons q r ih =>
    cases h:c q with
    | true =>
      rw [List.filter_cons_of_pos h,List.map_cons]
      show List.filterMap _ (q::r) = Value.str (v q) 0::txts _
      rw [← ih]
      exact List.filterMap_cons_some (if_pos h)
    | false =>
      have h':¬ c q = true:=by rw [h]; exact Bool.false_ne_true
      rw [List.filter_cons_of_neg h',← ih]
      exact List.filterMap_cons_none (if_neg h')
theorem fm_words (own:Nat) (qs:List (Nat × Str)):qs.filterMap (fun q=>if (decide (q.1≤own) && (q.2.cps.toList != wordA.cps.toList)) = true then some (Value.str q.2 0) else none) = txts (wordsOf own qs):=fm_if _ _ qs
theorem T_isNB {prog:Program} {w:World} {C:Cx} {A:Around} {σ:Led} {E:Value→Led→Prop} {a b:Bool} {Q:Value→Led→Prop} (h:Q (.bool (!(a == b))) σ):T prog w C A σ (compareOp .IsNot (.bool a) (.bool b)) Q E:=fun _ S=>wpAny_isNot_plain rfl ⟨_,by rw [show (Value.bool a == Value.bool b) = (a == b) by cases a <;> cases b <;> rfl]; exact h,S⟩
section
variable {prog:Program} {w:World} {C:Cx} {A:Around} {ρ σ:Led} {E:Value→Led→Prop} {L:Addr} {m:List (Str × Value)} {env:Env}
theorem T_Or2 {e₁ e₂:Expr} {pos:Pos} {Q:Value→Led→Prop} (h:T prog w C A σ (eval e₁ env) (fun v σ₁=>T prog w C A σ₁ (truthy v) (fun b σ₂=>if b = true then Q v σ₂ else T prog w C A σ₂ (eval e₂ env) Q E) E) E):T prog w C A σ (eval (.BoolOp .Or [e₁,e₂] pos) env) Q E:=fun _ S =>
  BoolOp_or (h.k S fun v _ _ h S=>h.k S fun b _ _ h S=>by
    cases b
    · exact h _ S
    · exact ⟨_,h,S⟩)
theorem law_10 {Q:Flow→Led→Prop} {la Rr Rc Nn:Addr} {addrs:List Str} {refs:List Value} {qs:List (Nat × Str)} {ds:List (Str × Nat)} {f:Str→Nat} {x1 x2:Value} {rs1 rs2:List Rule} {v:Option Value} (hK:C.K = KK w.params) (R:Rm 40 A)
    (l1:m.lookup (Str.ofString "addresses") = some (.ref la)) (l2:m.lookup (Str.ofString "row") = some (.ref Rr)) (l3:m.lookup (Str.ofString "records") = some (.ref Rc))
    (h1:(la,.lst (txts addrs))∈ρ) (h2:(Rr,.lst refs)∈ρ) (hp:prs ρ refs ((rwQ qs).map atp)) (h3:(Rc,.lst [x1,x2])∈ρ) (e1:EntAt C ρ x1 rs1) (e2:EntAt C ρ x2 rs2) (h4:(Nn,dcp prog w (kvD ds))∈ρ) (hc:(L + 1 + 1,.cel (some (.ref Nn)))∈ρ)
    (hf:∀ a∈addrs,valueAt (kvD ds) (spell a) = some (.int (f a) 0)) (ha:∀ a∈addrs,a.cps.all (· < 128) = true∧a.length≤20) (hq:qs.length≤100)
    (hdue:∀ a∈addrs,∃ j:Nat,qs[j]? = some (f a,wordA)∧(∀ i,i < j→qs[i]? ≠ some (f a,wordA))∧allow rs1 a = dueOf (wordsOf (f a) (qs.drop (j + 1)))∧allow rs2 a = dueOf (wordsOf (f a) (qs.drop (j + 1))))
    (h:∀ σ',Q (.ret (.bool true)) σ') :
    T prog w C A ((L,.ns m)::(L + 1 + 1 + 1,.cel v)::ρ) (execs (lawB.drop 12) (lawEnv L)) Q NoE:=by
  refine T_cons ?_
  refine T_For ?_ (fun _=>by with_unfolding_all rfl)
  wtm_at "t_run"
  refine T_iterL (by repeat (first | exact h1 | apply List.Mem.tail)) fun it=>?_
  refine opq2 (fun rr τ=>Ex3 fun m v k=>Al4 (m.lookup (Str.ofString "row") = some (.ref Rr)) (m.lookup (Str.ofString "records") = some (.ref Rc)) (rr = (txts addrs).drop k) (τ = (L,PO.ns m)::(L + 1 + 1 + 1,PO.cel v)::ρ)) fun J1 hJ1 hJ1'=>?_
  refine T_forL (xs:=txts addrs) R.hand J1 ?w0 ?wn ?wt ?wf
  case w0=>exact hJ1 _ _ ⟨m,v,0,l2,l3,rfl,rfl⟩
  case wn=>rintro rr τ hh; obtain ⟨m,v,k,_,_,_,rfl⟩:=hJ1' _ _ hh; clear hh; exact .tail _ (.tail _ h1)
  case wf =>
    rintro τ hh
    obtain ⟨m,v,k,_,_,_,rfl⟩:=hJ1' _ _ hh; clear hh
    dsimp only
    wtm_at "t_run"
    exact h _
  case wt =>
    rintro v0 rr τ i hh
    obtain ⟨m,v,k,l2,l3,hrr,rfl⟩:=hJ1' _ _ hh; clear hh
    obtain ⟨hlt,hv,rfl⟩:=drop_cm (f:=fun x:Str=>Value.str x 0) hrr
    obtain ⟨t,rfl⟩:=er_str hv
    have hm:=List.getElem_mem hlt
    have hf:=hf _ hm
    obtain ⟨a1,a2⟩:=ha _ hm
    obtain ⟨j,j1,j2,j3,j4⟩:=hdue _ hm
    generalize addrs[k] = ad at *
    refine T_assignN (T_stL (by wtm_at "r_ur") (by rfl) (by rfl) ?_)
    refine T.opq fun Q1 hQ1=>?_
    wtm_at "t_run"
    refine T_spelled hK (R.le (by decide)) a1 (by wtm_at "om") fun _=>?_
    refine T_itemD (kvs:=kvD ds) (by repeat (first | exact h4 | apply List.Mem.tail)) hf ?_
    wtm_at "t_vs"
    wtm_at "t_run"
    refine T_gmIndex (by repeat (first | exact h2 | apply List.Mem.tail)) ?_
    wtm_at "t_run"
    refine T_index (ps:=rwQ qs) (q:=(.i (f ad),.s wordA)) (j:=j) (by repeat (first | exact h2 | apply List.Mem.tail)) (hp.mono fun _ h=>.tail _ (.tail _ (.tail _ (.tail _ h)))) (.head _) (by have:=R.line; wtm_at "om") (fun p hp=>by
      obtain ⟨q,_,rfl⟩:=List.mem_map.mp hp
      exact ⟨rfl,rfl⟩) (by unfold rwQ; rw [List.length_map]; wtm_at "om") (by unfold rwQ; rw [List.getElem?_map,j1]; rfl) (fun i hi e=>by
      unfold rwQ at e
      rw [List.getElem?_map] at e
      obtain ⟨q,e1,e2⟩:=Option.map_eq_some_iff.mp e
      obtain ⟨q1,q2⟩:=q
      injection e2 with e2 e3
      injection e2 with e2
      injection e3 with e3
      refine j2 i hi ?_
      have e3:q2 = wordA:=e3
      have e2:q1 = f ad:=Int.ofNat.inj e2
      rw [e1,e3,e2]) fun _=>?_
    wtm_at "t_run"
    refine T_slcL (by wtm_at "r_mem") (by repeat (first | exact h2 | apply List.Mem.tail)) (by have:=hp.len; unfold rwQ at this; rw [List.length_map,List.length_map] at this; wtm_at "om") (.int _ _) .none .none (by decide) fun D=>?_
    rw [show ((j:Int) + 1) = ((j + 1:Nat):Int) from rfl,pick_from]
    wtm_at "t_run"
    wtm_at "t_lcg"
    wtm_at "t_run"
    refine T_iterL (by wtm_at "r_mem") fun it2=>?_
    have hpd:prs ρ (refs.drop (j + 1)) ((rwQ (qs.drop (j + 1))).map atp):=by
      have:=hp.drop (j + 1)
      rw [← List.map_drop] at this
      unfold rwQ at this ⊢
      rw [← List.map_drop] at this
      exact this
    have hqd:(qs.drop (j + 1)).length≤100:=by rw [List.length_drop]; wtm_at "om"
    generalize qs.drop (j + 1) = qd at *
    generalize refs.drop (j + 1) = rd at *
    refine CompT.drop (σ':=(it2,itr D 0)::(D,.lst rd)::(it,itr la i)::(L,.ns ((Str.ofString "behind", .ref D)::(Str.ofString "asked", .str ad 0)::m))::(L + 1 + 1 + 1,.cel (some (.int (f ad) 0)))::ρ) ?_ (.cons_cons _ (.cons_cons _ (.cons _ (.cons _ (List.Sublist.refl _)))))
    refine' T_compM (need:=fun τ=>(D,PO.lst rd)∈τ∧prs τ rd ((rwQ qd).map atp)) (po:=fun i=>[(it2,itr D i)]) qd (fun q=>(.int q.1 0,.str q.2 0)) (fun q=>if (decide (q.1≤f ad) && (q.2.cps.toList != wordA.cps.toList)) = true then some (.str q.2 0) else none) (by rw [← rwQ_map]; exact drwL (l:=D) (vs:=rd) R.hand) R.hand ?un (Nat.le_trans hqd (Nat.le_of_ble_eq_true rfl)) ?v1 ?v2 ?v3 ?v4 ?ut ?uf (fun q τ h=>⟨.tail _ h.1,h.2.mono fun _=>.tail _⟩)
    case v1=>rfl
    case v2=>rfl
    case v3=>rfl
    case v4=>decide
    case un=>exact ⟨.head _,hpd.mono fun _ h=>.tail _ (.tail _ (.tail _ (.tail _ h)))⟩
    case ut =>
      intro σ₀ L2 m2 q _ hm2 hτ
      have hcl:=hτ _ (.tail _ (.tail _ (.tail _ (.head _))))
      obtain ⟨g1,g2⟩:=q
      clear hτ hp hpd hdue h1 h2 h3 e1 e2 h4 hJ1 hJ1' hQ1 h l1 l2 l3 j1 j2 j3 j4 hc
      generalize f ad = own at *
      dsimp only [er] at hm2
      show T prog w C _ σ₀ _ (fun ok σ₁=>if ok = true then T prog w C _ σ₁ _ (fun v σ₂=>(if (decide (g1≤own) && (g2.cps.toList != (Str.ofString "Address").cps.toList)) = true then some (Value.str g2 0) else none) = some (er v)∧σ₀.Sublist σ₂) NoE else (if (decide (g1≤own) && (g2.cps.toList != (Str.ofString "Address").cps.toList)) = true then some (Value.str g2 0) else none) = none∧σ₀.Sublist σ₁) NoE
      wtm_at "t_run"
      refine T_leI ?_
      by_cases h1:g1≤own
      · rw [decide_eq_true (Int.ofNat_le.mpr h1),decide_eq_true h1,Bool.true_and]
        wtm_at "t_run"
        cases hb:(g2.cps.toList != (Str.ofString "Address").cps.toList) with
        | true =>
          refine ifT rfl ?_
          wtm_at "t_run"
          exact ⟨rfl,List.Sublist.refl _⟩
        | false =>
          refine ifF rfl ?_
          wtm_at "t_run"
          exact ⟨rfl,List.Sublist.refl _⟩
      · rw [decide_eq_false fun q=>h1 (Int.ofNat_le.mp q),decide_eq_false h1,Bool.false_and]
        wtm_at "t_run"
        exact ⟨rfl,List.Sublist.refl _⟩
    case uf =>
      rw [fm_words]
      intro L2 D2 m2
      wtm_at "t_run"
      refine ⟨m2,_,List.Sublist.refl _,?_⟩
      wtm_at "t_run"
      refine T.mono (Q:=fun v σ'=>v = .bool (dueOf (wordsOf (f ad) qd))∧∃ D3,σ' = (D3,.lst [])::(D2,.lst (txts (wordsOf (f ad) qd)))::(D,.lst rd)::(it,itr la i)::(L,.ns ((Str.ofString "words", .ref D2)::(Str.ofString "behind", .ref D)::(Str.ofString "asked", .str ad 0)::m))::(L + 1 + 1 + 1,.cel (some (.int (f ad) 0)))::ρ) ?_ ?_ (fun _ _ e=>e)
      · generalize wordsOf (f ad) qd = ws at *
        refine T_Or2 ?_
        wtm_at "t_run"
        refine T_eqNil (vs:=txts ws) (by wtm_at "r_mem") (.head _) (by have:=R.line; wtm_at "om") ?_
        cases ws with
        | nil =>
          wtm_at "t_run"
          exact ⟨rfl,_,rfl⟩
        | cons x r =>
          wtm_at "t_run"
          refine T_itemL (pv:=.str x 0) (by wtm_at "r_mem") (by decide) (by decide) rfl ?_
          wtm_at "t_vs"
          wtm_at "t_run"
          refine T_eqS ?_
          exact ⟨rfl,_,rfl⟩
      rintro v σ' ⟨rfl,D3,rfl⟩
      wtm_at "t_run"
      refine T_iterL (by repeat (first | exact h3 | apply List.Mem.tail)) fun it3=>?_
      have hE:∀ p∈[(x1,rs1),(x2,rs2)],EntAt C ρ p.1 p.2∧allow p.2 ad = dueOf (wordsOf (f ad) qd):=by
        intro p hp
        simp only [List.mem_cons,List.not_mem_nil,or_false] at hp
        rcases hp with rfl | rfl
        · exact ⟨e1,j3⟩
        · exact ⟨e2,j4⟩
      have hx:[x1,x2] = [(x1,rs1),(x2,rs2)].map (·.1):=rfl
      rw [hx] at h3
      generalize [(x1,rs1),(x2,rs2)] = es at *
      generalize dueOf (wordsOf (f ad) qd) = due at *
      refine TC.drop (σ':=(it3,itr Rc 0)::(it,itr la i)::(L,.ns ((Str.ofString "due", .bool due)::(Str.ofString "words", .ref D2)::(Str.ofString "behind", .ref D)::(Str.ofString "asked", .str ad 0)::m))::(L + 1 + 1 + 1,.cel (some (.int (f ad) 0)))::ρ) ?_ (.cons_cons _ (.cons _ (.cons _ (.cons _ (List.Sublist.refl _)))))
      refine opq2 (fun rr τ=>Ex2 fun m' k=>Al6 (m'.lookup (Str.ofString "row") = some (.ref Rr)) (m'.lookup (Str.ofString "records") = some (.ref Rc)) (m'.lookup (Str.ofString "asked") = some (.str ad 0)) (m'.lookup (Str.ofString "due") = some (.bool due)) (rr = (es.map (·.1)).drop k) (τ = (it,itr la i)::(L,PO.ns m')::(L + 1 + 1 + 1,PO.cel (some (.int (f ad) 0)))::ρ)) fun J3 hJ3 hJ3'=>?_
      refine T_forL (xs:=es.map (·.1)) R.hand J3 ?w0 ?wn ?wt ?wf
      case w0=>exact hJ3 _ _ ⟨_,0,by wtm_at "r_lk", by wtm_at "r_lk", by wtm_at "r_lk", by wtm_at "r_lk", rfl,rfl⟩
      case wn=>rintro rr τ hh; obtain ⟨m,k,_,_,_,_,_,rfl⟩:=hJ3' _ _ hh; clear hh; exact .tail _ (.tail _ (.tail _ h3))
      case wf =>
        rintro τ hh
        obtain ⟨m',k',f1,f2,_,_,_,rfl⟩:=hJ3' _ _ hh; clear hh
        dsimp only
        refine T_nil (hQ1 _ _ ?_)
        exact ⟨_,hJ1 _ _ ⟨m',_,k + 1,f1,f2,rfl,rfl⟩,List.Sublist.refl _⟩
      case wt =>
        rintro v0 rr τ i3 hh
        obtain ⟨m',k',f1,f2,f3,f4,hrr,rfl⟩:=hJ3' _ _ hh; clear hh
        obtain ⟨hlt',hv0,rfl⟩:=drop_cm hrr
        obtain ⟨⟨x,d,fs,rl,vs,e,q1,q2,q3,q4,q5,q6,q7⟩,q8⟩:=hE _ (List.getElem_mem hlt')
        rw [e] at hv0
        have hv0:=er_ref hv0
        subst hv0
        generalize es[k'] = g at *
        obtain ⟨gv,rs⟩:=g
        dsimp only at q5 q8
        refine T_assignN (T_stL (by wtm_at "r_ur") (by rfl) (by rfl) ?_)
        refine T.opq fun Q2 hQ2=>?_
        wtm_at "t_run"
        refine T_mth (by repeat (first | exact q1 | apply List.Mem.tail)) (by repeat (first | exact q2 | apply List.Mem.tail)) (by wtm_at "r_meth") q7 ?_
        wtm_at "t_run"
        refine T_allowance hK (R.le (by decide)) (by repeat (first | exact q1 | apply List.Mem.tail)) (by repeat (first | exact q2 | apply List.Mem.tail)) q3 (by repeat (first | exact q4 | apply List.Mem.tail)) (q5.mono (fun _ h=>by repeat (first | exact h | apply List.Mem.tail)) fun _ h=>h) ?_
        wtm_at "t_run"
        rw [q8]
        refine T_isNB ?_
        wtm_at "t_run"
        refine ifF (by simp) ?_
        refine T_nil ?_
        refine T_nil (hQ2 _ _ ?_)
        exact ⟨_,hJ3 _ _ ⟨_,k' + 1,by wtm_at "r_lk", by wtm_at "r_lk", by wtm_at "r_lk", by wtm_at "r_lk", rfl,rfl⟩,List.Sublist.refl _⟩
end
structure PT (st:LSt) (N:List (Str × Str)) (text hd p0:Str) (ps:List Str) (Ps:List Part) (ds:List (Str × Nat)) (qs:List (Nat × Str)) (f:Str→Nat):Prop where
  hz:text.length≤100000
  hs1:(Txt.split text (Str.ofString ">")).length≤1000
  h0:(txts (Txt.split text (Str.ofString ">")))[0]? = some (.str hd 0)
  hhl:hd.length≤100000
  hsp:Txt.split hd (Str.ofString " ") = p0::ps
  hP:PartsOk ps Ps
  hn:ps.length≤1000
  hds:numD [] Ps = kvD ds
  hrow:rowL Ps = rwQ qs
  h1:∀ p∈ds,p.1.length≤1000∧p.2 < 1000
  h2:∀ q∈qs,q.1 < ds.length∧q.2.length≤1000
  hn5:ds.length≤100
  hm5:qs.length≤100
  hv:ds.map (fun p=>(p.2:Int)) = upTo (st.addrs.foldl nsAdd []).length
  hw:wholeT ds qs = text
  hf:∀ p∈N,valueAt (kvD ds) (spell p.1) = some (.int (f p.1) 0)
  hs:∀ p∈N,Txt.slice (nm p) (some ((p.1.length:Int) + 2)) none = p.2
  hc:∀ p∈N,p.1.cps.all (· < 128) = true∧p.1.length≤20∧(nm p).length≤1000
  hperm:(rwQ qs).Perm (plN f N)
  hnd:(rwQ qs).Nodup
  hfa:∀ a∈st.addrs,valueAt (kvD ds) (spell a) = some (.int (f a) 0)
  haa:∀ a∈st.addrs,a.cps.all (· < 128) = true∧a.length≤20
  hdue:∀ a∈st.addrs,∃ j:Nat,qs[j]? = some (f a,wordA)∧(∀ i,i < j→qs[i]? ≠ some (f a,wordA))∧allow (st.r0 ++ st.r1) a = dueOf (wordsOf (f a) (qs.drop (j + 1)))∧allow (st.r1 ++ st.r0) a = dueOf (wordsOf (f a) (qs.drop (j + 1)))
structure PL (st:LSt) (N:List (Str × Str)):Prop where
  hat:attrD st.names = kvN N
  hl:∀ p∈st.names,p.1.length≤20∧p.2.length≤20
  hok:∀ r∈tg0::N,NmOk r
  hnd:(tg0::N).Nodup
  hz:N.length≤40
  hN:N ≠ []
  hA:∀ l:List Str,l.Nodup→(∀ u∈l,u∈(tg0::N).map (·.1))→l.length≤9
  mk0:markL st.r0 = st.z0
  mk1:markL st.r1 = st.z1
  rest:∀ ys rs:List (Str × Str),ys.Perm (tg0::N)→ys.Pairwise (fun a b=>lex bef bef a b = true)→rs.Perm N→rs.Pairwise (fun a b=>bef (nm a) (nm b) = true)→Ex7 fun hd p0 ps Ps ds qs f=>PT st N (pageT ys rs) hd p0 ps Ps ds qs f
theorem ent_m {C:Cx} {τ:Led} {c:MRec} {v:List Value} {rs:List Rule} (h:∀ y∈c.led v,y∈τ) (ok:c.Ok) (hr:rls C τ v rs) (hl:rs.length≤100):EntAt C τ (.ref c.x) rs :=
  ⟨c.x,c.d,c.fs,c.r,v,rfl,h _ (by unfold MRec.led; wtm_at "r_mem"),h _ (by unfold MRec.led; wtm_at "r_mem"),ok.r,h _ (by unfold MRec.led; wtm_at "r_mem"),hr,hl,ok.a⟩
theorem ent_h {C:Cx} {τ:Led} {x d u r:Addr} {v:List Value} {rs:List Rule} (h1:(x,PO.ins 76 d)∈τ) (h2:(d,PO.idc (entryF u r))∈τ) (h3:(r,PO.lst v)∈τ) (hr:rls C τ v rs) (hl:rs.length≤100):EntAt C τ (.ref x) rs :=
  ⟨x,d,_,r,v,rfl,h1,h2,by kernel_rfl,h3,hr,hl,by kernel_rfl⟩
section
variable {prog:Program} {w:World} {C:Cx} {A:Around} {ρ τ:Led} {L sl:Addr} {a:LA} {st:LSt} {N:List (Str × Str)}
theorem T_body {Q:Flow→Led→Prop} (hK:C.K = KK w.params) (hL:lam01∈C.lams) (R:Rm 40 A) (P:PL st N) (O:LOk 6 st) (hI:LInv C a sl L st ρ τ) (h:∀ σ',Q (.ret (.bool true)) σ') :
    T prog w C A τ (execs (lawB.drop 2) (lawEnv L)) Q NoE:=by
  obtain ⟨m,num,vs,v0,v1,tx,l1,l2,l3,l4,l5,hp,g0,g1,rfl⟩:=hI.ex
  unfold gled
  refine T.perm (σ':=(L,.ns m)::(a.ln,.lst vs)::(a.la,.lst (txts st.addrs))::_) ?_ (List.Perm.cons _ (List.Perm.swap _ _ _))
  refine law_2 R l5 (hp.mono fun _ h=>?_) P.hl (by have:=O.ln; wtm_at "om") fun ad wl=>?_
  · iterate 16 apply List.Mem.tail
    exact List.mem_append_left _ h
  rw [P.hat]
  refine law_3 hK hL R P.hok P.hnd P.hz P.hN P.hA fun ys rs x p1 p2 p3 p4=>?_
  obtain ⟨hd,p0,ps,Ps,ds,qs,f,X⟩:=P.rest ys rs p1 p2 p3 p4
  generalize hρ4:((ad,dcp prog w (kvN N))::(a.ln,.lst vs)::(a.la,.lst (txts st.addrs))::(L + 1,.cel num)::(a.r0,.lst v0)::(a.r1,.lst v1)::(a.k0,.lst (intL st.z0))::(a.k1,.lst (intL st.z1))::(a.lh,.lst [.ref a.e0,.ref a.e1])::(a.lm,.lst [.ref a.k0,.ref a.k1]) ::
    (a.e0,.ins 76 a.d0)::(a.d0,.idc (entryF a.u0 a.r0))::(a.u0,.lst [])::(a.e1,.ins 76 a.d1)::(a.d1,.idc (entryF a.u1 a.r1))::(a.u1,.lst [])::(tx ++ ρ):Led) = ρ4
  have hin:∀ y∈tx,y∈ρ4:=fun y hy=>by
    rw [← hρ4]
    iterate 16 apply List.Mem.tail
    exact List.mem_append_left _ hy
  have q0:rls C ρ4 v0 st.r0:=g0.mono hin fun _ h=>h
  have q1:rls C ρ4 v1 st.r1:=g1.mono hin fun _ h=>h
  have b1:(ad,dcp prog w (kvN N))∈ρ4:=by rw [← hρ4]; wtm_at "r_mem"
  have b2:(a.la,PO.lst (txts st.addrs))∈ρ4:=by rw [← hρ4]; wtm_at "r_mem"
  have b3:(a.r0,PO.lst v0)∈ρ4:=by rw [← hρ4]; wtm_at "r_mem"
  have b4:(a.r1,PO.lst v1)∈ρ4:=by rw [← hρ4]; wtm_at "r_mem"
  have b5:(a.k0,PO.lst (intL st.z0))∈ρ4:=by rw [← hρ4]; wtm_at "r_mem"
  have b6:(a.k1,PO.lst (intL st.z1))∈ρ4:=by rw [← hρ4]; wtm_at "r_mem"
  have b7:(a.lh,PO.lst [.ref a.e0,.ref a.e1])∈ρ4:=by rw [← hρ4]; wtm_at "r_mem"
  have b8:(a.lm,PO.lst [.ref a.k0,.ref a.k1])∈ρ4:=by rw [← hρ4]; wtm_at "r_mem"
  have b9:(a.e0,PO.ins 76 a.d0)∈ρ4:=by rw [← hρ4]; wtm_at "r_mem"
  have c1:(a.d0,PO.idc (entryF a.u0 a.r0))∈ρ4:=by rw [← hρ4]; wtm_at "r_mem"
  have c2:(a.u0,PO.lst [])∈ρ4:=by rw [← hρ4]; wtm_at "r_mem"
  have c3:(a.e1,PO.ins 76 a.d1)∈ρ4:=by rw [← hρ4]; wtm_at "r_mem"
  have c4:(a.d1,PO.idc (entryF a.u1 a.r1))∈ρ4:=by rw [← hρ4]; wtm_at "r_mem"
  have c5:(a.u1,PO.lst [])∈ρ4:=by rw [← hρ4]; wtm_at "r_mem"
  refine T.perm (σ':=(L,.ns _)::(L + 1 + 1,.cel none)::(L + 1 + 1 + 1,.cel none)::ρ4) ?_ (List.Perm.cons _ (by
    rw [← hρ4]
    exact List.perm_append_comm_assoc [_,_,_,_,_,_,_,_,_,_,_,_,_,_,_,_] [_,_] (tx ++ ρ)))
  clear hρ4
  refine law_4 hK R (by wtm_at "r_lk") X.hz X.hs1 X.h0 X.hhl X.hsp X.hP X.hn X.hds fun Nn Rr refs t4 k1=>?_
  rw [X.hrow] at k1
  have m4:∀ {y},y∈ρ4→y∈t4 ++ (L + 1 + 1 + 1,PO.cel none)::ρ4:=fun h=>List.mem_append_right _ (.tail _ h)
  refine law_5 hK R (by wtm_at "r_lk") (by wtm_at "r_lk") (by wtm_at "r_lk") (m4 b2) (k1.mono fun _ h=>List.mem_append_left _ h) (by have:=O.la; wtm_at "om") X.h1 X.h2 X.hn5 X.hm5 X.hv X.hw ?_
  refine law_6 (f:=f) hK R (by wtm_at "r_lk") (by wtm_at "r_lk") (m4 b1) (k1.mono fun _ h=>List.mem_append_left _ h) X.hf X.hs X.hc X.hperm X.hnd P.hN (by have:=P.hz; wtm_at "om") ?_
  refine T.perm (σ':=(L,.ns _)::(Rr,.lst refs)::(Nn,dcp prog w (kvD ds))::(L + 1 + 1,.cel (some (.ref Nn)))::(t4 ++ (L + 1 + 1 + 1,.cel none)::ρ4)) ?_ (List.perm_middle (l₁:=[_,_]))
  have m7:∀ {y},y∈ρ4→y∈(Rr,PO.lst refs)::(Nn,dcp prog w (kvD ds))::(L + 1 + 1,PO.cel (some (.ref Nn)))::(t4 ++ (L + 1 + 1 + 1,PO.cel none)::ρ4):=fun h=>.tail _ (.tail _ (.tail _ (m4 h)))
  have n0:=q0.len
  have n1:=q1.len
  have o0:=O.l0
  have o1:=O.l1
  refine law_7 (a:=a) hK R (by wtm_at "r_lk") (m7 b7) (m7 b9) (m7 c1) (m7 c2) (m7 b3) (m7 c3) (m7 c4) (m7 c5) (m7 b4) (by wtm_at "om") fun Rc d1 d2 ok1 ok2=>?_
  have m8:∀ {y},y∈ρ4→y∈(Rc,PO.lst [.ref d1.x,.ref d2.x])::(d2.led (v1 ++ v0) ++ (d1.led (v0 ++ v1) ++ (Rr,PO.lst refs)::(Nn,dcp prog w (kvD ds))::(L + 1 + 1,PO.cel (some (.ref Nn)))::(t4 ++ (L + 1 + 1 + 1,PO.cel none)::ρ4))) :=
    fun h=>.tail _ (List.mem_append_right _ (List.mem_append_right _ (m7 h)))
  refine law_8 (rs1:=st.r0 ++ st.r1) (rs2:=st.r1 ++ st.r0) (rs3:=st.r0) (rs4:=st.r1) hK R (by wtm_at "r_lk") (by wtm_at "r_lk") (m8 b7) (.head _)
    (ent_m (fun _ h=>.tail _ (List.mem_append_right _ (List.mem_append_left _ h))) ok1 ((q0.app q1).mono (fun _ h=>m8 h) fun _ h=>h) (by rw [List.length_append]; wtm_at "om"))
    (ent_m (fun _ h=>.tail _ (List.mem_append_left _ h)) ok2 ((q1.app q0).mono (fun _ h=>m8 h) fun _ h=>h) (by rw [List.length_append]; wtm_at "om"))
    (ent_h (m8 b9) (m8 c1) (m8 b3) (q0.mono (fun _ h=>m8 h) fun _ h=>h) (by wtm_at "om")) (ent_h (m8 c3) (m8 c4) (m8 b4) (q1.mono (fun _ h=>m8 h) fun _ h=>h) (by wtm_at "om")) rfl fun D t8 ys8 k8=>?_
  have e1:markL (st.r0 ++ st.r1) = st.z0 ++ st.z1:=by rw [← P.mk0,← P.mk1]; exact List.map_append
  have e2:markL (st.r1 ++ st.r0) = st.z1 ++ st.z0:=by rw [← P.mk0,← P.mk1]; exact List.map_append
  rw [e1,e2,P.mk0,P.mk1] at k8
  have m9:∀ {y},y∈ρ4→y∈(D,PO.lst ys8)::(t8 ++ (Rc,PO.lst [.ref d1.x,.ref d2.x])::(d2.led (v1 ++ v0) ++ (d1.led (v0 ++ v1) ++ (Rr,PO.lst refs)::(Nn,dcp prog w (kvD ds))::(L + 1 + 1,PO.cel (some (.ref Nn)))::(t4 ++ (L + 1 + 1 + 1,PO.cel none)::ρ4)))) :=
    fun h=>.tail _ (List.mem_append_right _ (m8 h))
  refine law_9 (k0:=a.k0) (k1:=a.k1) (z0:=st.z0) (z1:=st.z1) hK R (by wtm_at "r_lk") (by wtm_at "r_lk") (.head _) (m9 b8) (m9 b5) (m9 b6) (k8.mono fun _ h=>.tail _ (List.mem_append_left _ h)) (by have:=O.z0; wtm_at "om") (by have:=O.z1; wtm_at "om") ?_
  have eq:(D,PO.lst ys8)::(t8 ++ (Rc,PO.lst [.ref d1.x,.ref d2.x])::(d2.led (v1 ++ v0) ++ (d1.led (v0 ++ v1) ++ (Rr,PO.lst refs)::(Nn,dcp prog w (kvD ds))::(L + 1 + 1,PO.cel (some (.ref Nn)))::(t4 ++ (L + 1 + 1 + 1,PO.cel none)::ρ4)))) =
      ((D,PO.lst ys8)::(t8 ++ (Rc,PO.lst [.ref d1.x,.ref d2.x])::(d2.led (v1 ++ v0) ++ (d1.led (v0 ++ v1) ++ (Rr,PO.lst refs)::(Nn,dcp prog w (kvD ds))::(L + 1 + 1,PO.cel (some (.ref Nn)))::t4)))) ++ (L + 1 + 1 + 1,PO.cel none)::ρ4:=by
    simp only [List.cons_append,List.append_assoc]
  rw [eq]
  generalize hZ:((D,PO.lst ys8)::(t8 ++ (Rc,PO.lst [.ref d1.x,.ref d2.x])::(d2.led (v1 ++ v0) ++ (d1.led (v0 ++ v1) ++ (Rr,PO.lst refs)::(Nn,dcp prog w (kvD ds))::(L + 1 + 1,PO.cel (some (.ref Nn)))::t4))):Led) = Z
  refine T.perm (σ':=(L,.ns _)::(L + 1 + 1 + 1,.cel none)::(Z ++ ρ4)) ?_ (List.Perm.cons _ List.perm_middle)
  have mz:∀ {y},y∈ρ4→y∈Z ++ ρ4:=fun h=>List.mem_append_right _ h
  have z0:∀ {y},y∈(Rc,PO.lst [.ref d1.x,.ref d2.x])::(d2.led (v1 ++ v0) ++ (d1.led (v0 ++ v1) ++ (Rr,PO.lst refs)::(Nn,dcp prog w (kvD ds))::(L + 1 + 1,PO.cel (some (.ref Nn)))::t4))→y∈Z ++ ρ4:=fun h=>by
    rw [← hZ]
    exact List.mem_append_left _ (.tail _ (List.mem_append_right _ h))
  have z1:∀ {y},y∈(Rr,PO.lst refs)::(Nn,dcp prog w (kvD ds))::(L + 1 + 1,PO.cel (some (.ref Nn)))::t4→y∈Z ++ ρ4:=fun h=>z0 (.tail _ (List.mem_append_right _ (List.mem_append_right _ h)))
  exact law_10 (la:=a.la) (Rr:=Rr) (Rc:=Rc) (Nn:=Nn) (x1:=.ref d1.x) (x2:=.ref d2.x) (rs1:=st.r0 ++ st.r1) (rs2:=st.r1 ++ st.r0) (f:=f) hK R (by wtm_at "r_lk") (by wtm_at "r_lk") (by wtm_at "r_lk") (mz b2) (z1 (.head _)) (k1.mono fun _ h=>z1 (.tail _ (.tail _ (.tail _ h)))) (z0 (.head _))
    (ent_m (fun _ h=>z0 (.tail _ (List.mem_append_right _ (List.mem_append_left _ h)))) ok1 ((q0.app q1).mono (fun _ h=>mz h) fun _ h=>h) (by rw [List.length_append]; wtm_at "om"))
    (ent_m (fun _ h=>z0 (.tail _ (List.mem_append_left _ h))) ok2 ((q1.app q0).mono (fun _ h=>mz h) fun _ h=>h) (by rw [List.length_append]; wtm_at "om"))
    (z1 (.tail _ (.head _))) (z1 (.tail _ (.tail _ (.head _)))) X.hfa X.haa X.hm5 X.hdue h
end
section
variable {prog:Program} {w:World} {C:Cx} {A:Around} {s:Shared} {sl:Addr} {its:Array Value} {is:List Int}
theorem law_done (hK:C.K = KK w.params) (hL1:lam01∈C.lams) (hL2:lam02∈C.lams) (R:Rm 60 A) (hO:C.h₀.IsList sl its) (hx:its.toList.map er = intL is) (hz:is.length≤63) (P:∃ N,PL (lst is 6) N) (S:Sat C [] s) :
    wpAny (model prog w) A (call (.ref 246) [.ref sl]) (fun v s'=>v = .bool true∧Sat C [] s') (fun _ _=>False) s:=by
  obtain ⟨N,P⟩:=P
  refine law_head hK hL2 R hO hx hz S fun C' L a D ρ' τ s' hC hI S' _=>?_
  obtain ⟨h1,h2⟩:=hC.same
  refine T.kN (C:=C') (T_body (Q:=fun fl _=>retv fl = .bool true) (h1.trans hK) (hC.sub _ hL1) ((R.deeper _).le (by decide)) P (lst_ok is 6) hI fun _=>rfl) S' fun fl σ' s'' e S''=>?_
  exact ⟨e,hC.weak (S''.sub (List.nil_sublist _))⟩
end
theorem tl_app (x y:Str):(x ++ y).cps.toList = x.cps.toList ++ y.cps.toList:=by rw [Str.cps_append,Array.toList_append]
theorem tl_len (x:Str):x.cps.toList.length = x.length:=rfl
theorem sep_inj {c:Nat}:∀ {p q r s:List Nat},c ∉ p→c ∉ q→p ++ c::r = q ++ c::s→p = q∧r = s
  | [],[],r,s,_,_,h=>by injection h with _ h; exact ⟨rfl,h⟩
  | [],b::q,r,s,_,hq,h=>by injection h with h _; exact absurd (h ▸ List.mem_cons_self) hq
  | a::p,[],r,s,hp,_,h=>by injection h with h _; exact absurd (h ▸ List.mem_cons_self) hp
  | a::p,b::q,r,s,hp,hq,h=>by
    injection h with h1 h2
    obtain ⟨h3,h4⟩:=sep_inj (fun m=>hp (.tail _ m)) (fun m=>hq (.tail _ m)) h2
    exact ⟨by rw [h1,h3],h4⟩
theorem tl_join2 (z p q:Str) (r:List Str):(Str.join z (p::q::r)).cps.toList = p.cps.toList ++ (z.cps.toList ++ (Str.join z (q::r)).cps.toList):=by
  show (p ++ z ++ Str.join z (q::r)).cps.toList = _
  rw [tl_app,tl_app,List.append_assoc]
theorem join_inj {c:Nat}:∀ {ps qs:List Str},ps ≠ []→qs ≠ []→(∀ p∈ps,c ∉ p.cps.toList)→(∀ q∈qs,c ∉ q.cps.toList)→Str.join ⟨#[c]⟩ ps = Str.join ⟨#[c]⟩ qs→ps = qs
  | [],_,h,_,_,_,_=>absurd rfl h
  | _::_,[],_,h,_,_,_=>absurd rfl h
  | [p],[q],_,_,_,_,h=>by have h:p = q:=h; rw [h]
  | [p],q::q'::r,_,_,hp,_,h=>by
    have e:=congrArg Array.toList (congrArg Str.cps h)
    rw [tl_join2] at e
    exact absurd (by rw [show p.cps.toList = _ from e]; exact List.mem_append_right _ (.head _)) (hp p (.head _))
  | p::p'::r,[q],_,_,_,hq,h=>by
    have e:=congrArg Array.toList (congrArg Str.cps h)
    rw [tl_join2] at e
    exact absurd (by rw [← show _ = q.cps.toList from e]; exact List.mem_append_right _ (.head _)) (hq q (.head _))
  | p::p'::r,q::q'::r',_,_,hp,hq,h=>by
    have e:=congrArg Array.toList (congrArg Str.cps h)
    rw [tl_join2,tl_join2] at e
    obtain ⟨e1,e2⟩:=sep_inj (hp p (.head _)) (hq q (.head _)) e
    rw [str_ext e1,join_inj (by simp) (by simp) (fun a ha=>hp a (.tail _ ha)) (fun a ha=>hq a (.tail _ ha)) (str_ext e2)]
theorem split_is {x:Str} {c:Nat} {ps:List Str} (h0:ps ≠ []) (h1:∀ p∈ps,c ∉ p.cps.toList) (h:Str.join ⟨#[c]⟩ ps = x):Txt.split x ⟨#[c]⟩ = ps:=by
  refine join_inj (fun e=>?_) h0 (StrLaws.split_free x c) h1 (by rw [StrLaws.join_split,h])
  have:=split_pos x ⟨#[c]⟩
  rw [e] at this
  cases this
theorem flat_free {c:Nat} {z:List Nat}:∀ {l:List Nat},c ∉ l→(l.flatMap fun k=>if k = c then z else [k]) = l
  | [],_=>rfl
  | a::r,h=>by
    rw [List.flatMap_cons,if_neg (fun e:a = c=>h (e ▸ List.mem_cons_self)),flat_free (fun m=>h (.tail _ m))]
    rfl
theorem join_flat {c:Nat} (z:Str):∀ {ps:List Str},(∀ p∈ps,c ∉ p.cps.toList)→(Str.join z ps).cps.toList = (Str.join ⟨#[c]⟩ ps).cps.toList.flatMap fun k=>if k = c then z.cps.toList else [k]
  | [],_=>rfl
  | [p],h=>(flat_free (h p (.head _))).symm
  | p::q::r,h=>by
    have e2:=join_flat z (ps:=q::r) (fun a ha=>h a (.tail _ ha))
    rw [tl_join2,tl_join2,List.flatMap_append,List.flatMap_append,← e2,flat_free (h p (.head _))]
    show _ = _ ++ (List.flatMap _ [c] ++ _)
    rw [List.flatMap_cons,if_pos rfl,List.flatMap_nil,List.append_nil]
theorem repl_flat (x z:Str) (c:Nat):(Txt.replace x ⟨#[c]⟩ z).cps.toList = x.cps.toList.flatMap fun k=>if k = c then z.cps.toList else [k]:=by
  rw [StrLaws.replace_one,join_flat z (StrLaws.split_free x c),StrLaws.join_split]
theorem esc1_flat (x z:Str) (c:Nat):(esc1 x ⟨#[c]⟩ z).cps.toList = x.cps.toList.flatMap fun k=>if k = c then z.cps.toList else [k]:=by
  unfold esc1
  split
  · exact repl_flat x z c
  · rename_i h
    have h:c ∉ x.cps.toList:=by
      have e:Txt.contains x ⟨#[c]⟩ = decide (c∈x.cps.toList):=StrLaws.found_one x c
      rw [e] at h
      simpa using h
    exact (flat_free h).symm
theorem slc_to {x:Str} {b:Nat} (h:b≤x.length):(Txt.slice x none (some (b:Int))).cps.toList = x.cps.toList.take b:=by
  rw [beq_iff_eq.mp (slice_closes_to (x:=x) (j:=b) ⟨by wtm_at "om", by rw [tl_len]; wtm_at "om"⟩)]
  simp
theorem slc_from {x:Str} {a:Nat} (h:a≤x.length):(Txt.slice x (some (a:Int)) none).cps.toList = x.cps.toList.drop a:=by
  rw [slice_from_eq (x:=x) (i:=a) (b:=x.length) (by wtm_at "om") (by wtm_at "om") rfl]
  simp only [Int.toNat_natCast]
  exact List.take_of_length_le (by rw [List.length_drop,tl_len]; wtm_at "om")
theorem slc_last {x:Str} (h:1≤x.length):(Txt.slice x none (some (-1))).cps.toList = x.cps.toList.dropLast:=by
  rw [beq_iff_eq.mp (slice_closes_to_neg (x:=x) (j:=-1) (k:=(x.length:Int) - 1) (by decide) (by wtm_at "om") (by wtm_at "om"))]
  rw [List.dropLast_eq_take]
  simp
  have:=tl_len x
  have e:x.cps.size = x.length:=rfl
  wtm_at "om"
theorem get_uniq {c:Nat}:∀ {a b:List Nat} {j:Nat},c ∉ a→c ∉ b→(a ++ c::b)[j]? = some c→j = a.length
  | [],b,0,_,_,_=>rfl
  | [],b,j + 1,_,hb,h=>absurd (List.mem_of_getElem? (by simpa using h)) hb
  | d::a,b,0,ha,_,h=>by
    rw [List.cons_append,List.getElem?_cons_zero] at h
    injection h with h
    exact absurd (h ▸ List.mem_cons_self) ha
  | d::a,b,j + 1,ha,hb,h=>by
    rw [List.cons_append,List.getElem?_cons_succ] at h
    rw [get_uniq (fun m=>ha (.tail _ m)) hb h,List.length_cons]
structure Once (x y:Str) (a b:List Nat) (c:Nat) (r:List Nat):Prop where
  hx:x.cps.toList = a ++ y.cps.toList ++ b
  hy:y.cps.toList = c::r
  ha:c ∉ a
  hr:c ∉ r
  hb:c ∉ b
section
variable {x y:Str} {a b:List Nat} {c:Nat} {r:List Nat}
theorem Once.len (h:Once x y a b c r):x.length = a.length + y.length + b.length:=by
  rw [← tl_len,h.hx,List.length_append,List.length_append,tl_len]
theorem Once.ylen (h:Once x y a b c r):1≤y.length:=by rw [← tl_len,h.hy]; exact Nat.le_add_left _ _
theorem Once.at (h:Once x y a b c r):StrLaws.At x y x.length a.length:=by
  refine ⟨by rw [h.len]; wtm_at "om", ?_⟩
  rw [StrLaws.subAt_eq,beq_iff_eq,h.hx,List.append_assoc,List.drop_left',List.take_left']
  · rfl
  · rfl
theorem Once.only (h:Once x y a b c r) {j:Nat} (hj:StrLaws.At x y x.length j):j = a.length:=by
  have h2:=hj.2
  rw [StrLaws.subAt_eq,beq_iff_eq,h.hy] at h2
  have h3:x.cps.toList[j]? = some c:=by
    have h4:=congrArg (fun l:List Nat=>l[0]?) h2
    rw [List.getElem?_take_of_lt h.ylen,List.getElem?_drop] at h4
    simpa using h4
  rw [h.hx,h.hy,List.append_assoc,List.cons_append] at h3
  exact get_uniq h.ha (fun m=>(List.mem_append.mp m).elim h.hr h.hb) h3
theorem Once.one (h:Once x y a b c r):∀ {l:List Nat} {f:Nat},StrLaws.ChainTo x y x.length 0 l f→l ≠ []→l = [a.length]
  | [],_,_,h0=>absurd rfl h0
  | [i],_,hc,_=>by rw [h.only hc.2.1]
  | i::j::l,_,hc,_=>by
    have e1:=h.only hc.2.1
    have e2:=h.only hc.2.2.2.1
    have:=hc.2.2.1
    have:=h.ylen
    wtm_at "om"
theorem Once.occ1 (h:Once x y a b c r):Builtin.Str.occurrences x y 0 x.length 1 = [a.length]:=by
  obtain ⟨f,hc⟩:=StrLaws.occ_chain x y 1
  refine h.one hc fun e=>?_
  have:=(StrLaws.found_iff x y).mpr ⟨_,h.at⟩
  rw [e] at this
  cases this
theorem Once.occN (h:Once x y a b c r):Builtin.Str.occurrences x y 0 x.length (x.length + 1) = [a.length]:=by
  obtain ⟨f,hc⟩:=StrLaws.occ_chain x y (x.length + 1)
  refine h.one hc fun e=>?_
  obtain ⟨f',hg,hn⟩:=StrLaws.occ_tight x y h.ylen
  rw [e] at hg
  have hg:f' = 0:=hg
  exact hn _ (by wtm_at "om") h.at
theorem Once.parts (h:Once x y a b c r):Builtin.Str.partsBetween x [a.length] y.length = [⟨a.toArray⟩,⟨b.toArray⟩]:=by
  rw [StrLaws.partsBetween_eq]
  show [Builtin.Str.strSub x 0 a.length,Builtin.Str.strSub x (a.length + y.length) x.length] = _
  have e1:Builtin.Str.strSub x 0 a.length = ⟨a.toArray⟩:=by
    refine str_ext ?_
    rw [StrLaws.strSub_toList,h.hx,List.append_assoc,List.drop_zero,Nat.sub_zero,List.take_left']
    rfl
  have e2:Builtin.Str.strSub x (a.length + y.length) x.length = ⟨b.toArray⟩:=by
    refine str_ext ?_
    rw [StrLaws.strSub_toList,h.hx,List.drop_left' (by rw [List.length_append,tl_len])]
    exact List.take_of_length_le (by rw [h.len]; wtm_at "om")
  rw [e1,e2]
theorem Once.nolong (h:Once x y a b c r) (hk:Builtin.Str.strKind y = 1):¬ (decide (x.length < y.length) || decide (Builtin.Str.strKind x < Builtin.Str.strKind y)) = true:=by
  rw [Bool.or_eq_true,decide_eq_true_eq,decide_eq_true_eq,hk]
  have:=h.len
  have : 1≤Builtin.Str.strKind x:=by
    unfold Builtin.Str.strKind
    split
    · exact Nat.le_refl 1
    · split <;> wtm_at "om"
  wtm_at "om"
theorem Once.split (h:Once x y a b c r) (hk:Builtin.Str.strKind y = 1):Txt.split x y = [⟨a.toArray⟩,⟨b.toArray⟩]:=by
  unfold Txt.split
  rw [if_neg (h.nolong hk),h.occN,if_neg (by simp),h.parts]
theorem Once.splitMax (h:Once x y a b c r) (hk:Builtin.Str.strKind y = 1):Txt.splitMax x y 1 = [⟨a.toArray⟩,⟨b.toArray⟩]:=by
  unfold Txt.splitMax
  rw [if_neg (h.nolong hk),show limitOf x 1 = 1 from rfl,h.occ1,if_neg (by simp),h.parts]
end
open PySem.StrLaws PySem.Builtin.Str in
theorem occR_grows (s sub:Str) (limit:Nat):∀ (l:List Nat) (st:Array Nat × Nat),st.fst ≠ #[]→(forIn l st (occRBody s sub limit)).run.fst ≠ #[]
  | [],st,h=>h
  | a::l,st,h=>by
    rw [List.forIn_cons]
    unfold occRBody
    split
    · exact occR_grows s sub limit l _ (by simp)
    · exact occR_grows s sub limit l _ h
open PySem.StrLaws PySem.Builtin.Str in
theorem occR_found (s sub:Str):∀ (l:List Nat) (k:Nat),k∈l→StrLaws.At s sub s.length (s.length - k)→(forIn l ((#[]:Array Nat),s.length) (occRBody s sub 1)).run.fst ≠ #[]
  | [],_,h,_=>nomatch h
  | a::l,k,h,hk=>by
    rw [List.forIn_cons]
    unfold occRBody
    split
    · exact occR_grows s sub 1 l _ (by simp)
    · rename_i hc
      refine occR_found s sub l k ?_ hk
      rcases List.mem_cons.mp h with rfl | h
      · exact absurd ⟨⟨by simp,hk.1⟩,hk.2⟩ hc
      · exact h
open PySem.StrLaws PySem.Builtin.Str in
theorem occR_inv (s sub:Str) (limit:Nat):∀ (l:List Nat) (st:Array Nat × Nat),st.snd≤s.length→(∀ i∈st.fst,StrLaws.At s sub s.length i)→∀ i∈(forIn l st (occRBody s sub limit)).run.fst,StrLaws.At s sub s.length i
  | [],st,_,h=>h
  | a::l,st,hb,h=>by
    rw [List.forIn_cons]
    unfold occRBody
    split
    · rename_i hc
      refine occR_inv s sub limit l _ (Nat.sub_le _ _) ?_
      intro i hi'
      simp only [Array.mem_push] at hi'
      rcases hi' with hm | rfl
      · exact h i hm
      · exact ⟨Nat.le_trans hc.1.2 hb,hc.2⟩
    · exact occR_inv s sub limit l _ hb h
section
variable {x y:Str} {a b:List Nat} {c:Nat} {r:List Nat}
theorem Once.occR (h:Once x y a b c r):Builtin.Str.occurrencesFromRight x y 1 = [a.length]:=by
  have h1:=StrLaws.occR_length_le x y 1
  have h2:∀ i∈Builtin.Str.occurrencesFromRight x y 1,i = a.length:=by
    rw [StrLaws.occR_eq]
    intro i hi
    exact h.only (occR_inv x y 1 _ _ (Nat.le_refl _) (fun j hj=>absurd hj (Array.not_mem_empty j)) i (by simpa using hi))
  have h3:Builtin.Str.occurrencesFromRight x y 1 ≠ []:=by
    rw [StrLaws.occR_eq]
    intro e
    have hle:a.length≤x.length:=by rw [h.len]; wtm_at "om"
    refine occR_found x y (List.range' 0 (x.length + 1)) (x.length - a.length) (by simp [List.mem_range']; wtm_at "om") (by rw [show x.length - (x.length - a.length) = a.length by wtm_at "om"]; exact h.at) ?_
    simpa using e
  match hl:Builtin.Str.occurrencesFromRight x y 1,h1,h2,h3 with
  | [],_,_,h3=>exact absurd rfl h3
  | [i],_,h2,_=>rw [h2 i (.head _)]
  | _::_::_,h1,_,_=>exact absurd h1 (by simp)
theorem Once.rsplitMax (h:Once x y a b c r) (hk:Builtin.Str.strKind y = 1):Txt.rsplitMax x y 1 = [⟨a.toArray⟩,⟨b.toArray⟩]:=by
  unfold Txt.rsplitMax
  rw [if_neg (h.nolong hk),show limitOf x 1 = 1 from rfl,h.occR,if_neg (by simp),h.parts]
end
noncomputable def sgns:List Nat:=[47,97,38,34,60]
structure AdrOk (u:Str):Prop where
  len:u.length≤13
  ne:u.length ≠ 0
  al:∀ c∈u.cps.toList,c∈sgns
noncomputable def WordOk (x:Str):Prop:=x = wordA ∨ x = Str.ofString "Allow" ∨ x = Str.ofString "Disallow" ∨ x = Str.ofString "robots"
theorem WordOk.len {x:Str} (h:WordOk x):x.length≤8:=by
  rcases h with rfl | rfl | rfl | rfl <;> exact Nat.le_of_ble_eq_true rfl
theorem WordOk.free {x:Str} (h:WordOk x):∀ c∈[125,123,58,61,62,32,34],c ∉ x.cps.toList:=by
  rcases h with rfl | rfl | rfl | rfl <;> decide
theorem AdrOk.free {u:Str} (h:AdrOk u) {c:Nat} (hc:c ∉ sgns):c ∉ u.cps.toList:=fun m=>hc (h.al c m)
theorem tl_nm (p:Str × Str):(nm p).cps.toList = 123::(p.1.cps.toList ++ 125::p.2.cps.toList):=by
  unfold nm
  rw [tl_app,tl_app,tl_app]
  rfl
theorem tl_spell (x:Str):(spell x).cps.toList = x.cps.toList.flatMap fun c=>(spc c).cps.toList:=by
  unfold spell
  rw [StrLaws.glued_eq_join]
  generalize x.cps.toList = l
  induction l with
  | nil=>rfl
  | cons a r ih =>
    rw [List.map_cons,List.flatMap_cons,← ih]
    cases r with
    | nil=>show (spc a).cps.toList = _ ++ []; rw [List.append_nil]
    | cons b r=>rw [List.map_cons,tl_join2]; rfl
theorem spc_esc:∀ c∈sgns,(((((([c].flatMap fun k=>if k = 38 then (Str.ofString "&amp;").cps.toList else [k]).flatMap fun k=>if k = 60 then (Str.ofString "&lt;").cps.toList else [k]).flatMap fun k=>if k = 34 then (Str.ofString "&quot;").cps.toList else [k]).flatMap fun k=>if k = 9 then (Str.ofString "&#x9;").cps.toList else [k]).flatMap
    fun k=>if k = 10 then (Str.ofString "&#xA;").cps.toList else [k]).flatMap fun k=>if k = 13 then (Str.ofString "&#xD;").cps.toList else [k]) = (spc c).cps.toList:=by decide +kernel
theorem esF_spell {u:Str} (h:∀ c∈u.cps.toList,c∈sgns):esF u = spell u:=by
  refine str_ext ?_
  rw [tl_spell]
  unfold esF esE esD esC esB esA
  have e1:∀ x z:Str,(esc1 x (Str.ofString "&") z).cps.toList = x.cps.toList.flatMap fun k=>if k = 38 then z.cps.toList else [k]:=fun x z=>by rw [show Str.ofString "&" = ⟨#[38]⟩ from rfl]; exact esc1_flat x z 38
  have e2:∀ x z:Str,(esc1 x (Str.ofString "<") z).cps.toList = x.cps.toList.flatMap fun k=>if k = 60 then z.cps.toList else [k]:=fun x z=>by rw [show Str.ofString "<" = ⟨#[60]⟩ from rfl]; exact esc1_flat x z 60
  have e3:∀ x z:Str,(esc1 x (Str.ofString "\"") z).cps.toList = x.cps.toList.flatMap fun k=>if k = 34 then z.cps.toList else [k]:=fun x z=>by rw [show Str.ofString "\"" = ⟨#[34]⟩ from rfl]; exact esc1_flat x z 34
  have e4:∀ x z:Str,(esc1 x (Str.ofString "\t") z).cps.toList = x.cps.toList.flatMap fun k=>if k = 9 then z.cps.toList else [k]:=fun x z=>by rw [show Str.ofString "\t" = ⟨#[9]⟩ from rfl]; exact esc1_flat x z 9
  have e5:∀ x z:Str,(esc1 x (Str.ofString "\n") z).cps.toList = x.cps.toList.flatMap fun k=>if k = 10 then z.cps.toList else [k]:=fun x z=>by rw [show Str.ofString "\n" = ⟨#[10]⟩ from rfl]; exact esc1_flat x z 10
  have e6:∀ x z:Str,(esc1 x (Str.ofString "\r") z).cps.toList = x.cps.toList.flatMap fun k=>if k = 13 then z.cps.toList else [k]:=fun x z=>by rw [show Str.ofString "\r" = ⟨#[13]⟩ from rfl]; exact esc1_flat x z 13
  rw [e6,e5,e4,e3,e2,e1]
  generalize u.cps.toList = l at *
  induction l with
  | nil=>rfl
  | cons a r ih =>
    have h1:=spc_esc a (h a (.head _))
    rw [show a::r = [a] ++ r from rfl]
    simp only [List.flatMap_append]
    rw [ih (fun c hc=>h c (.tail _ hc)),h1]
    congr 1
    rw [List.flatMap_cons,List.flatMap_nil,List.append_nil]
theorem spell_len6 (u:Str):(spell u).length≤6 * u.length:=by
  rw [← tl_len,tl_spell,← tl_len]
  generalize u.cps.toList = l
  induction l with
  | nil=>exact Nat.le_refl _
  | cons a r ih =>
    rw [List.flatMap_cons,List.length_append,List.length_cons]
    have:=spc_len a
    rw [← tl_len] at this
    wtm_at "om"
theorem spell_free {u:Str} (h:∀ c∈u.cps.toList,c∈sgns):∀ c∈[61,62,32,34],c ∉ (spell u).cps.toList:=by
  have key:∀ d∈sgns,∀ c∈[61,62,32,34],c ∉ (spc d).cps.toList:=by decide +kernel
  intro c hc m
  rw [tl_spell,List.mem_flatMap] at m
  obtain ⟨d,hd,hm⟩:=m
  exact key d (h d hd) c hc hm
theorem mkS (x:Str):(⟨x.cps.toList.toArray⟩:Str) = x:=str_ext (by simp)
theorem kind1:Builtin.Str.strKind (Str.ofString "}") = 1:=by decide +kernel
theorem brace:(Str.ofString "}").cps.toList = [125]:=by decide +kernel
theorem nm_length (p:Str × Str):(nm p).length = p.1.length + p.2.length + 2:=by
  rw [← tl_len,tl_nm,List.length_cons,List.length_append,List.length_cons,tl_len,tl_len]; wtm_at "om"
theorem nm_tail (p:Str × Str):(Txt.slice (nm p) (some 1) none).cps.toList = p.1.cps.toList ++ 125::p.2.cps.toList:=by
  have:=slc_from (x:=nm p) (a:=1) (by rw [nm_length]; wtm_at "om")
  rw [show ((1:Nat):Int) = 1 from rfl] at this
  rw [this,tl_nm]; rfl
theorem nm_word (p:Str × Str):Txt.slice (nm p) (some ((p.1.length:Int) + 2)) none = p.2:=by
  refine str_ext ?_
  have:=slc_from (x:=nm p) (a:=p.1.length + 2) (by rw [nm_length]; wtm_at "om")
  rw [show ((p.1.length + 2:Nat):Int) = (p.1.length:Int) + 2 from rfl] at this
  rw [this,tl_nm,show p.1.length + 2 = p.1.length + 1 + 1 from rfl,List.drop_succ_cons,show p.1.length = p.1.cps.toList.length from rfl,List.drop_append,List.drop_eq_nil_of_le (Nat.le_succ _),Nat.add_sub_cancel_left]
  rfl
theorem nm_ok {p:Str × Str} (h1:AdrOk p.1) (h2:WordOk p.2):NmOk p where
  l1:=by have:=h1.len; wtm_at "om"
  l2:=by have:=h2.len; wtm_at "om"
  ne:=h1.ne
  hq1:=by
    have:=slc_to (x:=nm p) (b:=1) (by rw [nm_length]; wtm_at "om")
    rw [show ((1:Nat):Int) = 1 from rfl] at this
    rw [this,tl_nm]; rfl
  hq2:=by
    have o:Once (Txt.slice (nm p) (some 1) none) (Str.ofString "}") p.1.cps.toList p.2.cps.toList 125 [] :=
      ⟨by rw [nm_tail,brace,List.append_assoc]; rfl,brace,h1.free (by decide),by simp,h2.free _ (by decide)⟩
    rw [o.rsplitMax kind1,mkS,mkS]
  hk:=by
    have o:Once (nm p) (Str.ofString "}") (123::p.1.cps.toList) p.2.cps.toList 125 [] :=
      ⟨by rw [tl_nm,brace,List.append_assoc]; rfl,brace,fun m=>by
        rcases List.mem_cons.mp m with e | m
        · cases e
        · exact h1.free (by decide) m,by simp,h2.free _ (by decide)⟩
    rw [o.splitMax kind1,mkS]
    refine congrArg (·::[p.2]) (str_ext ?_)
    rw [tl_app]
    rfl
  hx:=fun e=>by
    have : (104:Nat)∈p.1.cps.toList:=by rw [e]; decide +kernel
    exact absurd (h1.al _ this) (by decide)
  es:=by
    rw [esF_spell h1.al]
    have:=spell_len6 p.1
    have:=h1.len
    wtm_at "om"
theorem spc_cancel:∀ c∈sgns,∀ d∈sgns,(spc c).cps.toList <+: (spc d).cps.toList→c = d:=by decide +kernel
theorem spc_ne:∀ c∈sgns,(spc c).cps.toList ≠ []:=by decide +kernel
theorem spell_inj {u v:Str} (hu:∀ c∈u.cps.toList,c∈sgns) (hv:∀ c∈v.cps.toList,c∈sgns) (h:spell u = spell v):u = v:=by
  have e:(spell u).cps.toList = (spell v).cps.toList:=by rw [h]
  rw [tl_spell,tl_spell] at e
  refine str_ext ?_
  generalize u.cps.toList = l at *
  generalize v.cps.toList = r at *
  clear h
  induction l generalizing r with
  | nil =>
    cases r with
    | nil=>rfl
    | cons b r =>
      rw [List.flatMap_nil,List.flatMap_cons] at e
      exact absurd (List.append_eq_nil_iff.mp e.symm).1 (spc_ne b (hv b (.head _)))
  | cons a l ih =>
    cases r with
    | nil =>
      rw [List.flatMap_nil,List.flatMap_cons] at e
      exact absurd (List.append_eq_nil_iff.mp e).1 (spc_ne a (hu a (.head _)))
    | cons b r =>
      rw [List.flatMap_cons,List.flatMap_cons] at e
      have hab:a = b:=by
        rcases List.append_eq_append_iff.mp e with ⟨z,h1,h2⟩ | ⟨z,h1,h2⟩
        · exact spc_cancel a (hu a (.head _)) b (hv b (.head _)) ⟨z,h1.symm⟩
        · exact (spc_cancel b (hv b (.head _)) a (hu a (.head _)) ⟨z,h1.symm⟩).symm
      subst hab
      rw [ih (fun c hc=>hu c (.tail _ hc)) r (fun c hc=>hv c (.tail _ hc)) (List.append_cancel_left e)]
noncomputable def prt (e:Str × Str):Str:=e.1 ++ Str.ofString "=\"" ++ spell e.2 ++ Str.ofString "\""
noncomputable def KeyOk (k:Str):Prop:=k.length≤60∧∀ c∈[61,62,32,34],c ∉ k.cps.toList
noncomputable def EntOk (e:Str × Str):Prop:=KeyOk e.1∧AdrOk e.2
noncomputable def hdT (E:List (Str × Str)):Str:=Str.ofString "<n0:robots" ++ Builtin.Str.glued (Str.ofString "") (E.map fun e=>Str.ofString " " ++ prt e)
theorem tl_glued (l:List Str):(Builtin.Str.glued (Str.ofString "") l).cps.toList = l.flatMap fun x=>x.cps.toList:=by
  rw [StrLaws.glued_eq_join]
  induction l with
  | nil=>rfl
  | cons a r ih =>
    rw [List.flatMap_cons,← ih]
    cases r with
    | nil=>show a.cps.toList = _ ++ []; rw [List.append_nil]
    | cons b r=>rw [tl_join2]; rfl
theorem tl_prt (e:Str × Str):(prt e).cps.toList = e.1.cps.toList ++ (61::34::(spell e.2).cps.toList ++ [34]):=by
  unfold prt
  rw [tl_app,tl_app,tl_app,List.append_assoc,List.append_assoc]
  rfl
theorem prt_free {e:Str × Str} (h:EntOk e):∀ c∈[62,32],c ∉ (prt e).cps.toList:=by
  intro c hc m
  rw [tl_prt] at m
  have key:∀ c∈[62,32],c∈[61,62,32,34]∧c ≠ 61∧c ≠ 34:=by decide
  obtain ⟨h0,h1,h2⟩:=key c hc
  have hk:=h.1.2 c h0
  have hs:=spell_free h.2.al c h0
  simp only [List.mem_append,List.mem_cons,List.not_mem_nil,or_false] at m
  rcases m with m | (m | m | m) | m
  · exact hk m
  · exact h1 m
  · exact h2 m
  · exact hs m
  · exact h2 m
theorem prt_len {e:Str × Str} (h:EntOk e):(prt e).length≤150:=by
  unfold prt
  rw [Str.length_append,Str.length_append,Str.length_append]
  have h1:=h.1.1
  have h2:=spell_len6 e.2
  have h3:=h.2.len
  show _ + 2 + _ + 1≤_
  wtm_at "om"
theorem hdT_free {E:List (Str × Str)} (h:∀ e∈E,EntOk e):62 ∉ (hdT E).cps.toList:=by
  unfold hdT
  rw [tl_app,tl_glued]
  intro m
  rcases List.mem_append.mp m with m | m
  · revert m; decide +kernel
  · obtain ⟨x,hx,hm⟩:=List.mem_flatMap.mp m
    obtain ⟨e,he,rfl⟩:=List.mem_map.mp hx
    rw [tl_app] at hm
    rcases List.mem_append.mp hm with hm | hm
    · revert hm; decide +kernel
    · exact prt_free (h e he) 62 (by decide) hm
theorem hdT_len {E:List (Str × Str)} (h:∀ e∈E,EntOk e):(hdT E).length≤10 + 151 * E.length:=by
  unfold hdT
  rw [Str.length_append,← tl_len (Builtin.Str.glued _ _),tl_glued]
  have : (List.flatMap (fun x:Str=>x.cps.toList) (E.map fun e=>Str.ofString " " ++ prt e)).length≤151 * E.length:=by
    induction E with
    | nil=>exact Nat.le_refl _
    | cons a r ih =>
      have ih:=ih fun e he=>h e (.tail _ he)
      have h1:=prt_len (h a (.head _))
      rw [List.map_cons,List.flatMap_cons,List.length_append,tl_len,Str.length_append,List.length_cons]
      have : (Str.ofString " ").length = 1:=rfl
      wtm_at "om"
  show 10 + _≤_
  wtm_at "om"
theorem split_gt {E:List (Str × Str)} (h:∀ e∈E,EntOk e):Txt.split (hdT E ++ Str.ofString "></n0:robots>") (Str.ofString ">") = [hdT E,Str.ofString "</n0:robots", Str.ofString ""]:=by
  rw [show Str.ofString ">" = ⟨#[62]⟩ from rfl]
  refine split_is (by simp) (fun p hp=>?_) ?_
  · simp only [List.mem_cons,List.not_mem_nil,or_false] at hp
    rcases hp with rfl | rfl | rfl
    · exact hdT_free h
    · decide +kernel
    · decide +kernel
  · refine str_ext ?_
    rw [tl_join2,tl_app]
    exact congrArg ((hdT E).cps.toList ++ ·) (by decide +kernel)
theorem tl_joinF (z x:Str):∀ bs:List Str,(Str.join z (x::bs)).cps.toList = x.cps.toList ++ bs.flatMap fun b=>z.cps.toList ++ b.cps.toList
  | []=>by rw [List.flatMap_nil,List.append_nil]; rfl
  | b::r=>by rw [tl_join2,tl_joinF z b r,List.flatMap_cons,List.append_assoc]
theorem split_sp {E:List (Str × Str)} (h:∀ e∈E,EntOk e):Txt.split (hdT E) (Str.ofString " ") = Str.ofString "<n0:robots" :: E.map prt:=by
  rw [show Str.ofString " " = ⟨#[32]⟩ from rfl]
  refine split_is (by simp) (fun p hp=>?_) ?_
  · rcases List.mem_cons.mp hp with rfl | hp
    · decide +kernel
    · obtain ⟨e,he,rfl⟩:=List.mem_map.mp hp
      exact prt_free (h e he) 32 (by decide)
  · refine str_ext ?_
    unfold hdT
    rw [tl_joinF,tl_app,tl_glued,List.flatMap_map,List.flatMap_map]
    refine congrArg (_ ++ ·) (congrArg (E.flatMap ·) (funext fun e=>?_))
    rw [tl_app]; rfl
theorem prt_split {k u:Str} (hk:KeyOk k) (hu:AdrOk u):Txt.split (Txt.slice (prt (k,u)) none (some (-1))) (Str.ofString "=\"") = [k,spell u]:=by
  have e1:(Txt.slice (prt (k,u)) none (some (-1))).cps.toList = k.cps.toList ++ (61::34::(spell u).cps.toList):=by
    rw [slc_last (by rw [← tl_len,tl_prt]; simp; wtm_at "om"),tl_prt,← List.append_assoc,List.dropLast_concat]
  have o:Once (Txt.slice (prt (k,u)) none (some (-1))) (Str.ofString "=\"") k.cps.toList (spell u).cps.toList 61 [34] :=
    ⟨by rw [e1,show (Str.ofString "=\"").cps.toList = [61,34] from rfl,List.append_assoc]; rfl,rfl,hk.2 _ (by decide),by decide,spell_free hu.al _ (by decide)⟩
  rw [o.split (by decide +kernel),mkS,mkS]
theorem xm_facts:∀ i,i < 10→((xmN i).length≤60∧∀ c∈[61,62,32,34],c ∉ (xmN i).cps.toList)∧Txt.split (xmN i) (Str.ofString ":") = [Str.ofString "xmlns", pre i]∧PySem.intText? (Txt.slice (pre i) (some 1) none) = some (i:Int)∧(Txt.slice (pre i) (some 1) none).length≤640:=by decide +kernel
theorem row_facts:∀ i,i < 10→∀ w∈[wordA,Str.ofString "Allow", Str.ofString "Disallow", Str.ofString "robots"],((pre i ++ Str.ofString ":" ++ w).length≤60∧∀ c∈[61,62,32,34],c ∉ (pre i ++ Str.ofString ":" ++ w).cps.toList) ∧
    Txt.split (pre i ++ Str.ofString ":" ++ w) (Str.ofString ":") = [pre i,w]∧pre i ≠ Str.ofString "xmlns" := by decide +kernel
theorem WordOk.mem {x:Str} (h:WordOk x):x∈[wordA,Str.ofString "Allow", Str.ofString "Disallow", Str.ofString "robots"]:=by
  rcases h with rfl | rfl | rfl | rfl <;> simp
theorem PartsOk.map {α:Type} {f:α→Str} {g:α→Part}:∀ {l:List α},(∀ x∈l,PartOk (f x) (g x)∧(f x).length≤1000)→PartsOk (l.map f) (l.map g)
  | [],_=>.nil
  | a::_,h=>.cons (h a (.head _)).1 (h a (.head _)).2 (PartsOk.map fun x hx=>h x (.tail _ hx))
theorem PartsOk.append {xs ys:List Str} {Ps Qs:List Part} (h:PartsOk xs Ps) (h':PartsOk ys Qs):PartsOk (xs ++ ys) (Ps ++ Qs):=by
  induction h with
  | nil=>exact h'
  | cons h h1 _ ih=>exact .cons h h1 ih
structure PG (us:List Str) (rs:List (Str × Str)):Prop where
  hl:us.length≤9
  hnd:us.Nodup
  hu:∀ u∈us,AdrOk u
  hr:∀ r∈rs,WordOk r.2∧r.1∈us
  h0:us.idxOf (Str.ofString "/") = 0
  hn:rs.length≤40
noncomputable def entZ (us:List Str):List (Str × Str):=us.zipIdx.map fun z=>(xmN z.2,z.1)
noncomputable def entR (us:List Str) (rs:List (Str × Str)):List (Str × Str):=rs.map fun r=>(rowS us r,r.1)
noncomputable def psZ (us:List Str):List Part:=us.zipIdx.map fun z=>.decl z.2 (spell z.1)
noncomputable def psR (us:List Str) (rs:List (Str × Str)):List Part:=rs.map fun r=>.attr (us.idxOf r.1) r.2 (spell r.1)
noncomputable def dsU (us:List Str):List (Str × Nat):=us.zipIdx.map fun z=>(spell z.1,z.2)
noncomputable def qsR (us:List Str) (rs:List (Str × Str)):List (Nat × Str):=rs.map fun r=>(us.idxOf r.1,r.2)
section
variable {us:List Str} {rs:List (Str × Str)}
theorem zi_at {z:Str × Nat} (h:z∈us.zipIdx):us[z.2]? = some z.1:=List.mk_mem_zipIdx_iff_getElem?.mp h
theorem PG.zi (P:PG us rs) {z:Str × Nat} (h:z∈us.zipIdx):z.2 < 10∧z.1∈us:=by
  have h1:=zi_at h
  have h2:=(List.getElem?_eq_some_iff.mp h1).1
  have:=P.hl
  exact ⟨by wtm_at "om", List.mem_of_getElem? h1⟩
theorem PG.ix (P:PG us rs) {r:Str × Str} (h:r∈rs):us.idxOf r.1 < us.length∧us.idxOf r.1 < 10:=by
  have h1:=List.idxOf_lt_length_of_mem (P.hr r h).2
  have:=P.hl
  exact ⟨h1,by wtm_at "om"⟩
theorem PG.ents (P:PG us rs):∀ e∈entZ us ++ entR us rs,EntOk e:=by
  intro e he
  rcases List.mem_append.mp he with he | he
  · obtain ⟨z,hz,rfl⟩:=List.mem_map.mp he
    obtain ⟨h1,h2⟩:=P.zi hz
    exact ⟨(xm_facts _ h1).1,P.hu _ h2⟩
  · obtain ⟨r,hr,rfl⟩:=List.mem_map.mp he
    obtain ⟨h1,h2⟩:=P.ix hr
    exact ⟨(row_facts _ h2 _ (P.hr r hr).1.mem).1,P.hu _ (P.hr r hr).2⟩
theorem attS_prt {k u:Str} (h:AdrOk u):attS (.s k,.s u) = Str.ofString " " ++ prt (k,u):=by
  show Str.ofString " " ++ k ++ Str.ofString "=\"" ++ esF u ++ Str.ofString "\"" = _
  rw [esF_spell h.al]
  unfold prt
  simp only [Str.append_assoc]
theorem PG.text (P:PG us rs):Builtin.Str.glued (Str.ofString "") ([Str.ofString "<" ++ rowS us tg0,Builtin.Str.glued (Str.ofString "") ((xm us ++ rs.map (rowA us)).map attS),Str.ofString ">"] ++ [Str.ofString "</" ++ rowS us tg0 ++ Str.ofString ">"]) = hdT (entZ us ++ entR us rs) ++ Str.ofString "></n0:robots>" := by
  have e1:rowS us tg0 = Str.ofString "n0:robots" := by
    show pre (us.idxOf (Str.ofString "/")) ++ Str.ofString ":" ++ Str.ofString "robots" = _
    rw [P.h0]; decide +kernel
  have e2:(xm us ++ rs.map (rowA us)).map attS = (entZ us ++ entR us rs).map fun e=>Str.ofString " " ++ prt e:=by
    rw [List.map_append,List.map_append]
    congr 1
    · unfold xm entZ
      rw [List.mapIdx_eq_zipIdx_map,List.map_map,List.map_map]
      refine List.map_congr_left fun z hz=>?_
      exact attS_prt (P.hu _ (P.zi hz).2)
    · unfold entR
      rw [List.map_map,List.map_map]
      refine List.map_congr_left fun r hr=>?_
      exact attS_prt (P.hu _ (P.hr r hr).2)
  rw [e1,e2]
  refine str_ext ?_
  unfold hdT
  rw [tl_glued,tl_app,tl_app]
  simp only [List.cons_append,List.nil_append,List.flatMap_cons,List.flatMap_nil,List.append_nil,List.append_assoc]
  generalize (Builtin.Str.glued (Str.ofString "") ((entZ us ++ entR us rs).map fun e=>Str.ofString " " ++ prt e)).cps.toList = g
  rfl
theorem PG.parts (P:PG us rs):PartsOk ((entZ us ++ entR us rs).map prt) (psZ us ++ psR us rs):=by
  have hE:=P.ents
  rw [List.map_append]
  refine .append ?_ ?_
  · unfold entZ psZ
    rw [List.map_map]
    refine PartsOk.map fun z hz=>?_
    obtain ⟨h1,h2⟩:=P.zi hz
    obtain ⟨f1,f2,f3,f4⟩:=xm_facts _ h1
    exact ⟨⟨_,_,prt_split f1 (P.hu _ h2),f2,f3,f4⟩,Nat.le_trans (prt_len ⟨f1,P.hu _ h2⟩) (by decide)⟩
  · unfold entR psR
    rw [List.map_map]
    refine PartsOk.map fun r hr=>?_
    obtain ⟨h1,h2⟩:=P.ix hr
    obtain ⟨f1,f2,f3⟩:=row_facts _ h2 _ (P.hr r hr).1.mem
    obtain ⟨_,_,f4,f5⟩:=xm_facts _ h2
    exact ⟨⟨_,_,prt_split f1 (P.hu _ (P.hr r hr).2),f2,f3,f4,f5⟩,Nat.le_trans (prt_len ⟨f1,P.hu _ (P.hr r hr).2⟩) (by decide)⟩
theorem numD_attr (d:List (Str × Value)) (l:List (Str × Str)):numD d (psR us l) = d:=by
  unfold numD psR
  induction l generalizing d with
  | nil=>rfl
  | cons a r ih=>rw [List.map_cons,List.foldl_cons]; exact ih d
theorem numD_decl:∀ (l:List (Str × Nat)) (acc:List (Str × Nat)),((acc ++ l).map (·.1)).Nodup→numD (kvD acc) (l.map fun z=>.decl z.2 z.1) = kvD (acc ++ l)
  | [],acc,_=>by rw [List.append_nil]; rfl
  | z::l,acc,h=>by
    have hk:z.1 ∉ (kvD acc).map (·.1):=by
      unfold kvD
      rw [List.map_map]
      rw [List.map_append,List.nodup_append] at h
      intro hm
      exact h.2.2 z.1 hm z.1 (by rw [List.map_cons]; exact .head _) rfl
    have e:numD (kvD acc) ((z::l).map fun z=>.decl z.2 z.1) = numD (kvD (acc ++ [z])) (l.map fun z=>.decl z.2 z.1):=by
      unfold numD
      rw [List.map_cons,List.foldl_cons]
      congr 1
      show stored (kvD acc) z.1 (.int z.2 0) = _
      rw [stored_absent (valueAt_none_of_not_mem hk)]
      unfold kvD
      rw [List.map_append]; rfl
    rw [e,numD_decl l (acc ++ [z]) (by rw [List.append_assoc]; exact h),List.append_assoc]
    rfl
theorem PG.keys (P:PG us rs):((dsU us).map (·.1)).Nodup:=by
  unfold dsU
  rw [List.map_map]
  have e:us.zipIdx.map ((fun x:Str × Nat=>x.1) ∘ fun z=>(spell z.1,z.2)) = us.map spell:=by
    rw [show ((fun x:Str × Nat=>x.1) ∘ fun z:Str × Nat=>(spell z.1,z.2)) = spell ∘ Prod.fst from rfl,← List.map_map,List.zipIdx_map_fst]
  rw [e]
  exact List.pairwise_map.mpr (P.hnd.imp_of_mem fun {a b} ha hb hne e=>hne (spell_inj (P.hu a ha).al (P.hu b hb).al e))
theorem PG.nums (P:PG us rs):numD [] (psZ us ++ psR us rs) = kvD (dsU us):=by
  have e:numD [] (psZ us ++ psR us rs) = numD (numD [] (psZ us)) (psR us rs):=by unfold numD; rw [List.foldl_append]
  rw [e,numD_attr]
  have e2:psZ us = (dsU us).map fun z=>.decl z.2 z.1:=by unfold psZ dsU; rw [List.map_map]; rfl
  rw [e2]
  exact numD_decl (dsU us) [] P.keys
theorem rows_eq:rowL (psZ us ++ psR us rs) = rwQ (qsR us rs):=by
  unfold rowL psZ psR rwQ qsR
  rw [List.filterMap_append,List.filterMap_map,List.filterMap_map,List.map_map]
  have e1:us.zipIdx.filterMap (rowOf ∘ fun z:Str × Nat=>Part.decl z.2 (spell z.1)) = []:=List.filterMap_eq_nil_iff.mpr fun _ _=>rfl
  rw [e1,List.nil_append]
  exact List.filterMap_eq_map (f:=fun r:Str × Str=>((.i (us.idxOf r.1),.s r.2):At × At)) ▸ rfl
theorem valueAt_mem {kvs:List (Str × Value)} (hn:(kvs.map (·.1)).Nodup) {k:Str} {v:Value} (h:(k,v)∈kvs):valueAt kvs k = some v:=by
  obtain ⟨i,hi,e⟩:=List.mem_iff_getElem.mp h
  exact valueAt_of_get hn (i:=i) (by rw [List.getElem?_eq_getElem hi,e])
theorem PG.val (P:PG us rs) {a:Str} (h:a∈us):valueAt (kvD (dsU us)) (spell a) = some (.int (us.idxOf a) 0):=by
  refine valueAt_mem ?_ ?_
  · have:=P.keys
    unfold kvD
    rw [List.map_map]
    exact this
  · unfold kvD dsU
    rw [List.map_map]
    refine List.mem_map.mpr ⟨(a,us.idxOf a),List.mk_mem_zipIdx_iff_getElem?.mpr ?_,rfl⟩
    have:=List.idxOf_lt_length_of_mem h
    rw [List.getElem?_eq_getElem this,List.getElem_idxOf]
theorem PG.whole (P:PG us rs):wholeT (dsU us) (qsR us rs) = hdT (entZ us ++ entR us rs) ++ Str.ofString "></n0:robots>" := by
  have hdl:(dsU us).length = us.length:=by unfold dsU; rw [List.length_map,List.length_zipIdx]
  have hd1:(dsU us).map (·.1) = us.map spell:=by
    unfold dsU
    rw [List.map_map,show ((fun x:Str × Nat=>x.1) ∘ fun z:Str × Nat=>(spell z.1,z.2)) = spell ∘ Prod.fst from rfl,← List.map_map,List.zipIdx_map_fst]
  unfold wholeT hdT
  congr 2
  rw [List.map_append]
  congr 2
  · unfold dsU entZ
    rw [List.map_map,List.map_map]
    refine List.map_congr_left fun z hz=>?_
    show Str.ofString " xmlns:n" ++ Str.ofString (toString (z.2:Int)) ++ Str.ofString "=\"" ++ spell z.1 ++ Str.ofString "\"" = Str.ofString " " ++ (Str.ofString "xmlns:" ++ (Str.ofString "n" ++ Str.ofString (toString (z.2:Int))) ++ Str.ofString "=\"" ++ spell z.1 ++ Str.ofString "\"")
    rw [show Str.ofString " xmlns:n" = Str.ofString " " ++ (Str.ofString "xmlns:" ++ Str.ofString "n") by decide +kernel]
    simp only [Str.append_assoc]
  · unfold qsR entR
    rw [List.map_map,List.map_map]
    refine List.map_congr_left fun r hr=>?_
    have hi:=(P.ix hr).1
    have eg:((dsU us).map (·.1)).getD (us.idxOf r.1) Str.empty = spell r.1:=by
      rw [hd1,List.getD_eq_getElem?_getD,List.getElem?_map,List.getElem?_eq_getElem hi,List.getElem_idxOf]; rfl
    show Str.ofString " n" ++ Str.ofString (toString (us.idxOf r.1:Int)) ++ Str.ofString ":" ++ r.2 ++ Str.ofString "=\"" ++ ((dsU us).map (·.1)).getD (us.idxOf r.1) Str.empty ++ Str.ofString "\"" =
      Str.ofString " " ++ (((Str.ofString "n" ++ Str.ofString (toString (us.idxOf r.1:Int))) ++ Str.ofString ":" ++ r.2) ++ Str.ofString "=\"" ++ spell r.1 ++ Str.ofString "\"")
    rw [eg,show Str.ofString " n" = Str.ofString " " ++ Str.ofString "n" by decide +kernel]
    simp only [Str.append_assoc]
end
theorem firsts_sorted {l:List (Str × Str)} (h:l.Pairwise fun a b=>lex bef bef a b = true):(firsts l).Pairwise fun a b=>bef a b = true:=by
  have key:∀ (l:List (Str × Str)) (us:List Str),us.Pairwise (fun a b=>bef a b = true)→l.Pairwise (fun a b=>lex bef bef a b = true)→(∀ u∈us,∀ p∈l,u = p.1 ∨ bef u p.1 = true)→(l.foldl (fun us p=>nsAdd us p.1) us).Pairwise fun a b=>bef a b = true:=by
    intro l
    induction l with
    | nil=>exact fun us h _ _=>h
    | cons p r ih =>
      intro us h1 h2 h3
      obtain ⟨h4,h5⟩:=List.pairwise_cons.mp h2
      rw [List.foldl_cons]
      refine ih _ ?_ h5 fun u hu q hq=>?_
      · unfold nsAdd
        split
        · exact h1
        · rename_i hn
          refine List.pairwise_append.mpr ⟨h1,List.pairwise_singleton _ _,fun u hu v hv=>?_⟩
          rw [List.mem_singleton.mp hv]
          rcases h3 u hu p (.head _) with e | e
          · exact absurd (e ▸ hu) hn
          · exact e
      · rcases nsAdd_mem.mp hu with hu | rfl
        · exact h3 u hu q (.tail _ hq)
        · have:=h4 q hq
          unfold lex at this
          by_cases e:p.1 = q.1
          · exact .inl e
          · rw [if_neg e] at this; exact .inr this
  exact key l [] .nil h fun u hu=>nomatch hu
theorem idx_le {us:List Str} (hs:us.Pairwise fun a b=>bef a b = true) {a b:Str} (ha:a∈us) (hb:b∈us):us.idxOf a≤us.idxOf b↔a = b ∨ bef a b = true:=by
  have h1:=List.idxOf_lt_length_of_mem ha
  have h2:=List.idxOf_lt_length_of_mem hb
  have g1:us[us.idxOf a] = a:=List.getElem_idxOf h1
  have g2:us[us.idxOf b] = b:=List.getElem_idxOf h2
  rw [List.pairwise_iff_getElem] at hs
  constructor
  · intro h
    rcases Nat.lt_or_eq_of_le h with h | h
    · have:=hs _ _ h1 h2 h
      rw [g1,g2] at this
      exact .inr this
    · refine .inl ?_
      rw [← g1,← g2]
      simp only [h]
  · intro h
    rcases h with h | h
    · rw [h]; exact Nat.le_refl _
    · apply Classical.byContradiction
      intro hn
      have:=hs _ _ h2 h1 (by wtm_at "om")
      rw [g1,g2,bef_ord.as h] at this
      cases this
theorem idx_inj {us:List Str} {a b:Str} (ha:a∈us) (hb:b∈us) (h:us.idxOf a = us.idxOf b):a = b:=by
  rw [← List.getElem_idxOf (List.idxOf_lt_length_of_mem ha),← List.getElem_idxOf (List.idxOf_lt_length_of_mem hb)]
  simp only [h]
section
variable {w v:List Nat}
theorem lt_pre:∀ {a b:List Nat},b < a→(a ++ 125::w) < (b ++ 125::v)→b <+: a
  | _,[],_,_=>List.nil_prefix
  | [],_::_,h,_=>absurd h (List.not_lt_nil _)
  | x::a,y::b,h,h'=>by
    rw [List.cons_lt_cons_iff] at h
    rw [List.cons_append,List.cons_append,List.cons_lt_cons_iff] at h'
    rcases h with h | ⟨rfl,h⟩
    · rcases h' with h' | ⟨h',_⟩ <;> wtm_at "om"
    · rcases h' with h' | ⟨_,h'⟩
      · wtm_at "om"
      · exact List.cons_prefix_cons.mpr ⟨rfl,lt_pre h h'⟩
theorem pre_lt:∀ {a b:List Nat},(∀ c∈a,c < 125)→b <+: a→b ≠ a→(a ++ 125::w) < (b ++ 125::v)∧b < a
  | [],[],_,_,hn=>absurd rfl hn
  | x::a,[],hc,_,_=>⟨List.cons_lt_cons_iff.mpr (.inl (hc x (.head _))),List.nil_lt_cons _ _⟩
  | [],y::b,_,h,_=>absurd h (by simp)
  | x::a,y::b,hc,h,hn=>by
    obtain ⟨e,hp⟩:=List.cons_prefix_cons.mp h
    subst e
    obtain ⟨h1,h2⟩:=pre_lt (fun c hc'=>hc c (.tail _ hc')) hp fun e=>hn (by rw [e])
    exact ⟨List.cons_lt_cons_iff.mpr (.inr ⟨rfl,h1⟩),List.cons_lt_cons_iff.mpr (.inr ⟨rfl,h2⟩)⟩
theorem app_lt:∀ {a:List Nat},(a ++ 125::w) < (a ++ 125::v)→w < v
  | [],h=>by
    rw [List.nil_append,List.nil_append,List.cons_lt_cons_iff] at h
    rcases h with h | ⟨_,h⟩
    · wtm_at "om"
    · exact h
  | _::a,h=>by
    rw [List.cons_append,List.cons_append,List.cons_lt_cons_iff] at h
    rcases h with h | ⟨_,h⟩
    · wtm_at "om"
    · exact app_lt h
end
theorem bef_nm (p q:Str × Str):bef (nm p) (nm q) = true↔(p.1.cps.toList ++ 125::p.2.cps.toList) < (q.1.cps.toList ++ 125::q.2.cps.toList):=by
  unfold bef
  rw [decide_eq_true_eq,tl_nm,tl_nm,List.cons_lt_cons_iff]
  exact ⟨fun h=>h.elim (fun h=>absurd h (Nat.lt_irrefl _)) fun h=>h.2,fun h=>.inr ⟨rfl,h⟩⟩
theorem AdrOk.low {u:Str} (h:AdrOk u):∀ c∈u.cps.toList,c < 125:=fun c hc=>by
  have key:∀ d∈sgns,d < 125:=by decide
  exact key c (h.al c hc)
theorem later_iff {a b w v:Str} (ha:AdrOk a) (h:bef (nm (a,w)) (nm (b,v)) = true):(b = a ∨ bef b a = true)↔b.cps.toList <+: a.cps.toList:=by
  rw [bef_nm] at h
  constructor
  · rintro (rfl | hb)
    · exact List.prefix_refl _
    · unfold bef at hb
      exact lt_pre (of_decide_eq_true hb) h
  · intro hp
    by_cases e:b.cps.toList = a.cps.toList
    · exact .inl (str_ext e)
    · exact .inr (decide_eq_true (pre_lt (w:=[]) (v:=[]) ha.low hp e).2)
theorem root_first {us:List Str} (hs:us.Pairwise fun a b=>bef a b = true) (hm:Str.ofString "/" ∈ us) (h:∀ u∈us,∃ r,u.cps.toList = 47::r):us.idxOf (Str.ofString "/") = 0:=by
  cases us with
  | nil=>cases hm
  | cons v r =>
    by_cases e:v = Str.ofString "/"
    · rw [e]; exact List.idxOf_cons_self
    · rcases List.mem_cons.mp hm with q | q
      · exact absurd q.symm e
      · have h1:=(List.pairwise_cons.mp hs).1 _ q
        obtain ⟨r',h2⟩:=h v (.head _)
        have h3:bef (Str.ofString "/") v = true:=by
          refine decide_eq_true ?_
          rw [h2,show (Str.ofString "/").cps.toList = [47] from rfl,List.cons_lt_cons_iff]
          refine .inr ⟨rfl,?_⟩
          cases r' with
          | nil=>exact absurd (str_ext h2) e
          | cons x r'=>exact List.nil_lt_cons _ _
        rw [bef_ord.as h3] at h1
        cases h1
theorem starts_iff (x y:Str):Txt.startswith x y = true↔y.cps.toList <+: x.cps.toList:=by
  unfold Txt.startswith
  rw [Bool.and_eq_true,StrLaws.subAt_eq,beq_iff_eq,List.drop_zero]
  constructor
  · rintro ⟨_,h⟩
    rw [← h]
    exact List.take_prefix _ _
  · intro h
    refine ⟨decide_eq_true (by have:=h.length_le; rw [tl_len,tl_len] at this; wtm_at "om"),?_⟩
    have:=List.prefix_iff_eq_take.mp h
    rw [tl_len] at this
    exact this.symm
theorem reach_pre {p x:Str} (h:p.cps.toList <+: x.cps.toList):reach p x = p.length + 1:=by unfold reach; rw [if_pos ((starts_iff x p).mpr h)]
theorem reach_no {p x:Str} (h:¬ p.cps.toList <+: x.cps.toList):reach p x = 0:=by unfold reach; rw [if_neg (fun e=>h ((starts_iff x p).mp e))]
theorem reach_nn (p x:Str):0≤reach p x:=by unfold reach; split <;> wtm_at "om"
noncomputable def AInv (x:Str) (l:List Rule) (st:Int × Bool):Prop :=
  ((∀ r∈l,reach r.path x = 0)∧st = (-1,true)) ∨ (0 < st.1∧(∃ r∈l,reach r.path x = st.1)∧(∀ r∈l,reach r.path x≤st.1)∧(st.2 = true↔∃ r∈l,reach r.path x = st.1∧r.ok = true))
theorem AInv.step {x:Str} {l:List Rule} {st:Int × Bool} (h:AInv x l st) (r:Rule):AInv x (l ++ [r]) (allowStep x st r):=by
  have hnn:=reach_nn r.path x
  unfold allowStep
  by_cases h0:reach r.path x = 0
  · rw [if_pos h0]
    rcases h with ⟨h1,h2⟩ | ⟨h1,h2,h3,h4⟩
    · refine .inl ⟨fun q hq=>?_,h2⟩
      rcases List.mem_append.mp hq with hq | hq
      · exact h1 q hq
      · rw [List.mem_singleton.mp hq]; exact h0
    · refine .inr ⟨h1,?_,fun q hq=>?_,?_⟩
      · obtain ⟨q,hq,e⟩:=h2
        exact ⟨q,List.mem_append_left _ hq,e⟩
      · rcases List.mem_append.mp hq with hq | hq
        · exact h3 q hq
        · rw [List.mem_singleton.mp hq]; wtm_at "om"
      · rw [h4]
        constructor
        · rintro ⟨q,hq,e⟩; exact ⟨q,List.mem_append_left _ hq,e⟩
        · rintro ⟨q,hq,e⟩
          rcases List.mem_append.mp hq with hq | hq
          · exact ⟨q,hq,e⟩
          · rw [List.mem_singleton.mp hq] at e; wtm_at "om"
  · rw [if_neg h0]
    by_cases h1:reach r.path x > st.1
    · rw [if_pos h1]
      have hle:∀ q∈l,reach q.path x < reach r.path x:=fun q hq=>by
        rcases h with ⟨g1,_⟩ | ⟨_,_,g3,_⟩
        · rw [g1 q hq]; wtm_at "om"
        · have:=g3 q hq; wtm_at "om"
      refine .inr ⟨by show 0 < reach r.path x; wtm_at "om", ⟨r,by simp,rfl⟩,fun q hq=>?_,?_⟩
      · show _≤reach r.path x
        rcases List.mem_append.mp hq with hq | hq
        · have:=hle q hq; wtm_at "om"
        · rw [List.mem_singleton.mp hq]; exact Int.le_refl _
      · show r.ok = true↔_
        constructor
        · intro e; exact ⟨r,by simp,rfl,e⟩
        · rintro ⟨q,hq,e1,e2⟩
          have e1:reach q.path x = reach r.path x:=e1
          rcases List.mem_append.mp hq with hq | hq
          · have:=hle q hq; wtm_at "om"
          · rw [← List.mem_singleton.mp hq]; exact e2
    · rw [if_neg h1]
      rcases h with ⟨g1,g2⟩ | ⟨g1,g2,g3,g4⟩
      · rw [g2] at h1
        have h1:¬ reach r.path x > -1:=h1
        wtm_at "om"
      · by_cases hc:reach r.path x = st.1∧st.2 = false
        · rw [if_pos hc]
          refine .inr ⟨g1,⟨r,by simp,hc.1⟩,fun q hq=>?_,?_⟩
          · show _≤st.1
            rcases List.mem_append.mp hq with hq | hq
            · exact g3 q hq
            · rw [List.mem_singleton.mp hq,hc.1]; exact Int.le_refl _
          · show r.ok = true↔_
            constructor
            · intro e; exact ⟨r,by simp,hc.1,e⟩
            · rintro ⟨q,hq,e1,e2⟩
              rcases List.mem_append.mp hq with hq | hq
              · have:=g4.mpr ⟨q,hq,e1,e2⟩
                rw [hc.2] at this; cases this
              · rw [← List.mem_singleton.mp hq]; exact e2
        · rw [if_neg hc]
          refine .inr ⟨g1,?_,fun q hq=>?_,?_⟩
          · obtain ⟨q,hq,e⟩:=g2
            exact ⟨q,List.mem_append_left _ hq,e⟩
          · rcases List.mem_append.mp hq with hq | hq
            · exact g3 q hq
            · rw [List.mem_singleton.mp hq]; wtm_at "om"
          · constructor
            · intro e
              obtain ⟨q,hq,e⟩:=g4.mp e
              exact ⟨q,List.mem_append_left _ hq,e⟩
            · rintro ⟨q,hq,e1,e2⟩
              rcases List.mem_append.mp hq with hq | hq
              · exact g4.mpr ⟨q,hq,e1,e2⟩
              · rw [List.mem_singleton.mp hq] at e1
                cases e:st.2 with
                | true=>rfl
                | false=>exact absurd ⟨e1,e⟩ hc
theorem AInv.fold {x:Str}:∀ (l l0:List Rule) (st:Int × Bool),AInv x l0 st→AInv x (l0 ++ l) (l.foldl (allowStep x) st)
  | [],l0,st,h=>by rw [List.append_nil]; exact h
  | r::l,l0,st,h=>by
    have:=AInv.fold l _ _ (h.step r)
    rw [List.append_assoc] at this
    exact this
theorem allow_inv (x:Str) (l:List Rule):AInv x l (l.foldl (allowStep x) (-1,true)):=AInv.fold l [] _ (.inl ⟨fun _ h=>(nomatch h),rfl⟩)
theorem allow_none {x:Str} {l:List Rule} (h:∀ r∈l,¬ r.path.cps.toList <+: x.cps.toList):allow l x = true:=by
  unfold allow
  rcases allow_inv x l with ⟨_,h2⟩ | ⟨h1,⟨r,hr,e⟩,_,_⟩
  · rw [h2]
  · rw [reach_no (h r hr)] at e
    wtm_at "om"
theorem allow_some {x p:Str} {l:List Rule} (hp:p.cps.toList <+: x.cps.toList) (hr:∃ r∈l,r.path = p) (hm:∀ r∈l,r.path.cps.toList <+: x.cps.toList→r.path.length≤p.length):allow l x = true↔∃ r∈l,r.path = p∧r.ok = true:=by
  obtain ⟨r0,hr0,e0⟩:=hr
  unfold allow
  rcases allow_inv x l with ⟨h1,_⟩ | ⟨h1,⟨q,hq,e⟩,h3,h4⟩
  · have:=h1 r0 hr0
    rw [e0,reach_pre hp] at this
    wtm_at "om"
  · have hb:(l.foldl (allowStep x) (-1,true)).1 = p.length + 1:=by
      have g1:=h3 r0 hr0
      rw [e0,reach_pre hp] at g1
      by_cases hqp:q.path.cps.toList <+: x.cps.toList
      · have:=hm q hq hqp
        rw [reach_pre hqp] at e
        wtm_at "om"
      · rw [reach_no hqp] at e; wtm_at "om"
    rw [h4,hb]
    constructor
    · rintro ⟨r,hr,g1,g2⟩
      refine ⟨r,hr,?_,g2⟩
      by_cases hrp:r.path.cps.toList <+: x.cps.toList
      · rw [reach_pre hrp] at g1
        refine str_ext ?_
        rw [List.prefix_iff_eq_take.mp hrp,List.prefix_iff_eq_take.mp hp,tl_len,tl_len,show r.path.length = p.length by wtm_at "om"]
      · rw [reach_no hrp] at g1; wtm_at "om"
    · rintro ⟨r,hr,g1,g2⟩
      exact ⟨r,hr,by rw [g1,reach_pre hp],g2⟩
noncomputable def Word3 (x:Str):Prop:=x = wordA ∨ x = Str.ofString "Allow" ∨ x = Str.ofString "Disallow"
theorem Word3.ok {x:Str} (h:Word3 x):WordOk x:=h.elim .inl fun h=>h.elim (fun h=>.inr (.inl h)) fun h=>.inr (.inr (.inl h))
theorem Word3.rule {x:Str} (h:Word3 x) (hn:x ≠ wordA):∃ b,x = wordR b:=by
  rcases h with h | h | h
  · exact absurd h hn
  · exact ⟨true,h⟩
  · exact ⟨false,h⟩
theorem wordA_lt:∀ b,¬ (wordR b).cps.toList < wordA.cps.toList:=by decide +kernel
theorem word_ne:∀ b,wordR b ≠ wordA:=by decide +kernel
theorem word_dis:¬ (wordR false).cps.toList < (wordR true).cps.toList:=by decide +kernel
theorem word_inj:∀ b c,wordR b = wordR c→b = c:=by decide +kernel
theorem allow_word:∀ b,((wordR b).cps.toList == (Str.ofString "Allow").cps.toList) = b:=by decide +kernel
structure RF (us:List Str) (N rs:List (Str × Str)):Prop where
  perm:rs.Perm N
  srt:rs.Pairwise fun a b=>bef (nm a) (nm b) = true
  usr:us.Pairwise fun a b=>bef a b = true
  mem:∀ r∈N,r.1∈us∧AdrOk r.1∧Word3 r.2
section
variable {us:List Str} {N rs:List (Str × Str)} {rules:List Rule} {a:Str}
theorem RF.nodup (F:RF us N rs):rs.Nodup:=F.srt.imp fun {a b} h e=>by rw [e,bef_irr] at h; cases h
theorem wordsOf_map (own:Nat) (l:List (Str × Str)):wordsOf own (qsR us l) = (l.filter fun r=>decide (us.idxOf r.1≤own) && (r.2.cps.toList != wordA.cps.toList)).map (·.2):=by
  unfold wordsOf qsR
  rw [List.filter_map,List.map_map]
  rfl
theorem RF.due (F:RF us N rs) (ha:(a,wordA)∈N) (hru:∀ r∈rules,(r.path,wordR r.ok)∈N) (hur:∀ p b,(p,wordR b)∈N→∃ r∈rules,r.path = p∧r.ok = b) :
    allow rules a = dueOf (wordsOf (us.idxOf a) ((qsR us rs).drop (rs.idxOf (a,wordA) + 1))):=by
  obtain ⟨ha1,ha2,_⟩:=F.mem _ ha
  dsimp only at ha1 ha2
  have hm:(a,wordA)∈rs:=F.perm.mem_iff.mpr ha
  have hj:=List.idxOf_lt_length_of_mem hm
  have hcut:rs = rs.take (rs.idxOf (a,wordA)) ++ (a,wordA)::rs.drop (rs.idxOf (a,wordA) + 1):=by
    conv=>lhs; rw [← List.take_append_drop (rs.idxOf (a,wordA)) rs,List.drop_eq_getElem_cons hj,List.getElem_idxOf hj]
  have hs:=F.srt
  rw [hcut,List.pairwise_append] at hs
  obtain ⟨_,hs2,hs3⟩:=hs
  obtain ⟨hs4,hs5⟩:=List.pairwise_cons.mp hs2
  have e1:(qsR us rs).drop (rs.idxOf (a,wordA) + 1) = qsR us (rs.drop (rs.idxOf (a,wordA) + 1)):=by unfold qsR; rw [List.map_drop]
  rw [e1,wordsOf_map]
  generalize rs.idxOf (a,wordA) = j at *
  generalize hpost:rs.drop (j + 1) = post at *
  have hpm:∀ r∈post,r∈N:=fun r hr=>F.perm.mem_iff.mp (by rw [hcut]; exact List.mem_append_right _ (.tail _ hr))
  have e2:(post.filter fun r=>decide (us.idxOf r.1≤us.idxOf a) && (r.2.cps.toList != wordA.cps.toList)) = post.filter fun r=>decide (r.1.cps.toList <+: a.cps.toList∧r.2 ≠ wordA):=by
    refine List.filter_congr fun r hr=>?_
    obtain ⟨h1,_,_⟩:=F.mem r (hpm r hr)
    have h2:=(idx_le F.usr h1 ha1).trans (later_iff ha2 (hs4 r hr))
    have h3:(r.2.cps.toList != wordA.cps.toList) = true↔r.2 ≠ wordA:=by
      rw [bne_iff_ne]
      exact ⟨fun h e=>h (by rw [e]),fun h e=>h (str_ext e)⟩
    rw [Bool.eq_iff_iff,Bool.and_eq_true,decide_eq_true_eq,decide_eq_true_eq,h2,h3]
  rw [e2]
  have hF:∀ r,r∈(post.filter fun r=>decide (r.1.cps.toList <+: a.cps.toList∧r.2 ≠ wordA))↔r∈N∧r.1.cps.toList <+: a.cps.toList∧r.2 ≠ wordA:=by
    intro r
    rw [List.mem_filter,decide_eq_true_eq]
    refine ⟨fun ⟨h1,h2⟩=>⟨hpm r h1,h2⟩,fun ⟨h1,h2,h3⟩=>⟨?_,h2,h3⟩⟩
    have h4:=F.perm.mem_iff.mpr h1
    rw [hcut] at h4
    rcases List.mem_append.mp h4 with h4 | h4
    · have h5:=hs3 r h4 (a,wordA) (.head _)
      obtain ⟨_,_,h6⟩:=F.mem r h1
      by_cases e:r.1.cps.toList = a.cps.toList
      · rw [bef_nm] at h5
        dsimp only at h5
        rw [e] at h5
        obtain ⟨b,hb⟩:=h6.rule h3
        rw [hb] at h5
        exact absurd (app_lt h5) (wordA_lt b)
      · have h7:=(pre_lt (w:=wordA.cps.toList) (v:=r.2.cps.toList) ha2.low h2 e).1
        have h8:=(bef_nm (a,wordA) r).mpr h7
        rw [bef_ord.as h8] at h5
        cases h5
    · rcases List.mem_cons.mp h4 with h4 | h4
      · exact absurd (by rw [h4]) h3
      · exact h4
  have hFs:(post.filter fun r=>decide (r.1.cps.toList <+: a.cps.toList∧r.2 ≠ wordA)).Pairwise fun a b=>bef (nm a) (nm b) = true:=hs5.filter _
  generalize (post.filter fun r=>decide (r.1.cps.toList <+: a.cps.toList∧r.2 ≠ wordA)) = G at *
  cases G with
  | nil =>
    rw [List.map_nil,allow_none fun r hr hp=>?_]
    · rfl
    · exact absurd ((hF (r.path,wordR r.ok)).mpr ⟨hru r hr,hp,word_ne _⟩) (List.not_mem_nil)
  | cons r0 G =>
    obtain ⟨p0,w0⟩:=r0
    obtain ⟨g1,g2,g3⟩:=(hF (p0,w0)).mp (.head _)
    obtain ⟨_,g4,g5⟩:=F.mem _ g1
    obtain ⟨b0,hb0⟩:=g5.rule g3
    dsimp only at g2 g4 hb0
    subst hb0
    have hd:dueOf ((((p0,wordR b0)::G).map (·.2))) = b0:=allow_word b0
    rw [hd]
    obtain ⟨q0,hq0,hq1,hq2⟩:=hur p0 b0 g1
    have hlater:∀ r,r∈N→r.1.cps.toList <+: a.cps.toList→r.2 ≠ wordA→r = (p0,wordR b0) ∨ bef (nm (p0,wordR b0)) (nm r) = true:=fun r k1 k2 k3=>by
      rcases List.mem_cons.mp ((hF r).mpr ⟨k1,k2,k3⟩) with k | k
      · exact .inl k
      · exact .inr ((List.pairwise_cons.mp hFs).1 r k)
    have hmax:∀ r∈rules,r.path.cps.toList <+: a.cps.toList→r.path.length≤p0.length:=fun r hr hp=>by
      rcases hlater _ (hru r hr) hp (word_ne _) with k | k
      · have:=congrArg (·.1) k
        dsimp only at this
        rw [this]; exact Nat.le_refl _
      · apply Classical.byContradiction
        intro hn
        have h1:p0.cps.toList <+: r.path.cps.toList:=by
          refine List.prefix_of_prefix_length_le g2 hp ?_
          rw [tl_len,tl_len]; wtm_at "om"
        have h2:p0.cps.toList ≠ r.path.cps.toList:=fun e=>by
          have:=congrArg List.length e
          rw [tl_len,tl_len] at this; wtm_at "om"
        have h3:=(bef_nm (r.path,wordR r.ok) (p0,wordR b0)).mpr (pre_lt (F.mem _ (hru r hr)).2.1.low h1 h2).1
        rw [bef_ord.as h3] at k
        cases k
    have key:=allow_some (x:=a) (p:=p0) (l:=rules) g2 ⟨q0,hq0,hq1⟩ hmax
    cases b0 with
    | true=>rw [key]; exact ⟨q0,hq0,hq1,hq2⟩
    | false =>
      cases hal:allow rules a with
      | false=>rfl
      | true =>
        obtain ⟨r,hr,k1,k2⟩:=key.mp hal
        have hN:=hru r hr
        rw [k1,k2] at hN
        rcases hlater _ hN g2 (word_ne true) with k | k
        · have:=congrArg (·.2) k
          exact absurd (word_inj true false this) (by decide)
        · rw [bef_nm] at k
          exact absurd (app_lt k) word_dis
theorem RF.place (F:RF us N rs) (ha:(a,wordA)∈N):(qsR us rs)[rs.idxOf (a,wordA)]? = some (us.idxOf a,wordA)∧∀ i,i < rs.idxOf (a,wordA)→(qsR us rs)[i]? ≠ some (us.idxOf a,wordA):=by
  have hm:(a,wordA)∈rs:=F.perm.mem_iff.mpr ha
  have hj:=List.idxOf_lt_length_of_mem hm
  unfold qsR
  refine ⟨by rw [List.getElem?_map,List.getElem?_eq_getElem hj,List.getElem_idxOf hj]; rfl,fun i hi e=>?_⟩
  rw [List.getElem?_map,List.getElem?_eq_getElem (Nat.lt_trans hi hj)] at e
  injection e with e
  have e1:=congrArg (·.1) e
  have e2:=congrArg (·.2) e
  dsimp only at e1 e2
  have hi':=Nat.lt_trans hi hj
  have hN:=F.perm.mem_iff.mp (List.getElem_mem hi')
  have e3:=idx_inj (F.mem _ hN).1 (F.mem _ ha).1 e1
  have e4:rs[i] = (a,wordA):=Prod.ext e3 e2
  have e5:rs[i] = rs[rs.idxOf (a,wordA)]:=by rw [e4,List.getElem_idxOf hj]
  have:=(List.getElem_inj F.nodup).mp e5
  wtm_at "om"
end
noncomputable def AdrP (b:Nat) (u:Str):Prop:=u.length≤b∧(∃ r,u.cps.toList = 47::r)∧∀ c∈u.cps.toList,c∈sgns
theorem sgN_mem (d:Nat):sgN d∈sgns:=by
  have key:∀ k,k < 4→sgN k∈sgns:=by decide
  have h:=key (d % 4) (Nat.mod_lt _ (by decide))
  unfold sgN at h ⊢
  rw [Nat.mod_mod] at h
  exact h
theorem adr_p {as:List Str} {n b:Nat} (h0:as ≠ []) (h:∀ a∈as,AdrP b a):AdrP (b + 2) (adrOf as n):=by
  have hlt:n / 10 % 10 % as.length < as.length:=Nat.mod_lt _ (List.length_pos_iff.mpr h0)
  have hl:=adr_len (n:=n) fun a ha=>(h a ha).1
  refine ⟨hl,?_⟩
  unfold adrOf
  rw [List.getD_eq_getElem?_getD,List.getElem?_eq_getElem hlt,Option.getD_some]
  obtain ⟨_,⟨r,hr⟩,h3⟩:=h _ (List.getElem_mem hlt)
  have h8:n / 100 % 10 % 3 < 3:=Nat.mod_lt _ (by decide)
  have e:(Txt.slice (sgS (n / 1000 % 10) ++ sgS (n / 10000 % 10)) none (some ((n / 100 % 10 % 3:Nat):Int))).cps.toList = [sgN (n / 1000 % 10),sgN (n / 10000 % 10)].take (n / 100 % 10 % 3):=by
    rw [slc_to (by rw [Str.length_append]; show _≤1 + 1; wtm_at "om"),tl_app]; rfl
  rw [tl_app,hr,e]
  refine ⟨⟨_,rfl⟩,fun c hc=>?_⟩
  rcases List.mem_append.mp hc with hc | hc
  · exact h3 c (by rw [hr]; exact hc)
  · have:=List.mem_of_mem_take hc
    simp only [List.mem_cons,List.not_mem_nil,or_false] at this
    rcases this with rfl | rfl <;> exact sgN_mem _
structure LF (k:Nat) (st:LSt):Prop where
  ne:st.addrs ≠ []
  adr:∀ a∈st.addrs,AdrP (1 + 2 * k) a
  root:Str.ofString "/" ∈ st.addrs
  nm1:∀ p∈st.names,p.1∈st.addrs∧Word3 p.2
  nm2:∀ a∈st.addrs,(a,wordA)∈st.names
  ru1:∀ r∈st.r0 ++ st.r1,(r.path,wordR r.ok)∈st.names
  ru2:∀ p b,(p,wordR b)∈st.names→∃ r∈st.r0 ++ st.r1,r.path = p∧r.ok = b
  mk0:markL st.r0 = st.z0
  mk1:markL st.r1 = st.z1
theorem word3R (b:Bool):Word3 (wordR b):=by cases b with | true=>exact .inr (.inl rfl) | false=>exact .inr (.inr rfl)
section
variable {st:LSt} {ad:Str} {b:Bool} {k:Nat}
theorem LF.adr2 (h:LF k st) (hA:AdrP (1 + 2 * (k + 1)) ad):∀ a∈st.addrs ++ [ad],AdrP (1 + 2 * (k + 1)) a:=fun a ha=>by
  rcases List.mem_append.mp ha with ha | ha
  · obtain ⟨h1,h2⟩:=h.adr a ha
    exact ⟨by wtm_at "om", h2⟩
  · rw [List.mem_singleton.mp ha]; exact hA
theorem LF.one (h:LF k st):∀ p∈st.names ++ [(ad,wordA)],p.1∈st.addrs ++ [ad]∧Word3 p.2:=fun p hp=>by
  rcases List.mem_append.mp hp with hp | hp
  · exact ⟨List.mem_append_left _ (h.nm1 p hp).1,(h.nm1 p hp).2⟩
  · rw [List.mem_singleton.mp hp]; exact ⟨by simp,.inl rfl⟩
theorem LF.two (h:LF k st):∀ a∈st.addrs ++ [ad],(a,wordA)∈st.names ++ [(ad,wordA)]:=fun a ha=>by
  rcases List.mem_append.mp ha with ha | ha
  · exact List.mem_append_left _ (h.nm2 a ha)
  · rw [List.mem_singleton.mp ha]; simp
theorem LF.rule (h:LF k st) {R':List Rule} {x:Rule} (hx:x.path = ad∧x.ok = b) (hR:∀ r,r∈R'↔r∈st.r0 ++ st.r1 ∨ r = x) :
    (∀ r∈R',(r.path,wordR r.ok)∈(st.names ++ [(ad,wordA)]) ++ [(ad,wordR b)])∧∀ p c,(p,wordR c)∈(st.names ++ [(ad,wordA)]) ++ [(ad,wordR b)]→∃ r∈R',r.path = p∧r.ok = c:=by
  refine ⟨fun r hr=>?_,fun p c hp=>?_⟩
  · rcases (hR r).mp hr with hr | rfl
    · exact List.mem_append_left _ (List.mem_append_left _ (h.ru1 r hr))
    · rw [hx.1,hx.2]; simp
  · rcases List.mem_append.mp hp with hp | hp
    · rcases List.mem_append.mp hp with hp | hp
      · obtain ⟨r,hr,e⟩:=h.ru2 p c hp
        exact ⟨r,(hR r).mpr (.inl hr),e⟩
      · have:=congrArg (·.2) (List.mem_singleton.mp hp)
        exact absurd this (word_ne c)
    · have hp:=List.mem_singleton.mp hp
      have e1:=congrArg (·.1) hp
      have e2:=word_inj _ _ (congrArg (·.2) hp)
      exact ⟨x,(hR x).mpr (.inr rfl),by rw [hx.1]; exact e1.symm,by rw [hx.2]; exact e2.symm⟩
theorem LF.norule (h:LF k st):(∀ r∈st.r0 ++ st.r1,(r.path,wordR r.ok)∈st.names ++ [(ad,wordA)])∧∀ p c,(p,wordR c)∈st.names ++ [(ad,wordA)]→∃ r∈st.r0 ++ st.r1,r.path = p∧r.ok = c:=by
  refine ⟨fun r hr=>List.mem_append_left _ (h.ru1 r hr),fun p c hp=>?_⟩
  rcases List.mem_append.mp hp with hp | hp
  · exact h.ru2 p c hp
  · exact absurd (congrArg (·.2) (List.mem_singleton.mp hp)) (word_ne c)
end
theorem mark_app (l:List Rule) (r:Rule):markL (l ++ [r]) = markL l ++ [r.mark]:=List.map_append
theorem LF.step {is:List Int} {i:Nat} {f:Int} {st:LSt} (h:LF i st):LF (i + 1) (lstep is i f st):=by
  have hA:AdrP (1 + 2 * (i + 1)) (adrOf st.addrs (numOf is i f)):=adr_p h.ne h.adr
  have hone (b:Bool):∀ p∈(st.names ++ [(adrOf st.addrs (numOf is i f),wordA)]) ++ [(adrOf st.addrs (numOf is i f),wordR b)],p.1∈st.addrs ++ [adrOf st.addrs (numOf is i f)]∧Word3 p.2:=fun p hp=>by
    rcases List.mem_append.mp hp with hp | hp
    · exact h.one p hp
    · rw [List.mem_singleton.mp hp]; exact ⟨by simp,word3R b⟩
  unfold lstep
  split
  · split
    · obtain ⟨q1,q2⟩:=h.rule (ad:=adrOf st.addrs (numOf is i f)) (b:=decide (numOf is i f % 10 % 3 = 1)) (R':=(st.r0 ++ [⟨adrOf st.addrs (numOf is i f),decide (numOf is i f % 10 % 3 = 1),i⟩]) ++ st.r1) (x:=⟨adrOf st.addrs (numOf is i f),decide (numOf is i f % 10 % 3 = 1),i⟩) ⟨rfl,rfl⟩ fun r=>by
        simp only [List.mem_append,List.mem_singleton]
        exact ⟨fun h=>h.elim (fun h=>h.elim (fun h=>.inl (.inl h)) .inr) fun h=>.inl (.inr h),fun h=>h.elim (fun h=>h.elim (fun h=>.inl (.inl h)) .inr) fun h=>.inl (.inr h)⟩
      exact ⟨by simp,h.adr2 hA,List.mem_append_left _ h.root,hone _,fun a ha=>List.mem_append_left _ (h.two a ha),q1,q2,by show markL (st.r0 ++ [_]) = st.z0 ++ [_]; rw [mark_app,h.mk0],h.mk1⟩
    · obtain ⟨q1,q2⟩:=h.rule (ad:=adrOf st.addrs (numOf is i f)) (b:=decide (numOf is i f % 10 % 3 = 1)) (R':=st.r0 ++ (st.r1 ++ [⟨adrOf st.addrs (numOf is i f),decide (numOf is i f % 10 % 3 = 1),i⟩])) (x:=⟨adrOf st.addrs (numOf is i f),decide (numOf is i f % 10 % 3 = 1),i⟩) ⟨rfl,rfl⟩ fun r=>by
        simp only [List.mem_append,List.mem_singleton]
        exact ⟨fun h=>h.elim (fun h=>.inl (.inl h)) fun h=>h.elim (fun h=>.inl (.inr h)) .inr,fun h=>h.elim (fun h=>h.elim .inl fun h=>.inr (.inl h)) fun h=>.inr (.inr h)⟩
      exact ⟨by simp,h.adr2 hA,List.mem_append_left _ h.root,hone _,fun a ha=>List.mem_append_left _ (h.two a ha),q1,q2,h.mk0,by show markL (st.r1 ++ [_]) = st.z1 ++ [_]; rw [mark_app,h.mk1]⟩
  · obtain ⟨q1,q2⟩:=h.norule (ad:=adrOf st.addrs (numOf is i f))
    exact ⟨by simp,h.adr2 hA,List.mem_append_left _ h.root,h.one,h.two,q1,q2,h.mk0,h.mk1⟩
theorem lst_f (is:List Int):∀ k,LF k (lst is k)
  | 0=>⟨List.cons_ne_nil _ [],fun a ha=>by
      rw [List.mem_singleton.mp ha]; exact ⟨Nat.le_refl _,⟨[],rfl⟩,by decide +kernel⟩,List.mem_singleton.mpr rfl,fun p hp=>by
      rw [List.mem_singleton.mp hp]; exact ⟨List.mem_singleton.mpr rfl,.inl rfl⟩,fun a ha=>by
      rw [List.mem_singleton.mp ha]; exact List.mem_singleton.mpr rfl,fun r hr=>(nomatch hr),fun p b hp=>absurd (congrArg (·.2) (List.mem_singleton.mp hp)) (word_ne b),rfl,rfl⟩
  | k + 1=>(lst_f is k).step
theorem AdrP.ok {u:Str} (h:AdrP 13 u):AdrOk u:=by
  obtain ⟨h1,⟨r,hr⟩,h3⟩:=h
  refine ⟨h1,fun e=>?_,h3⟩
  rw [← tl_len,hr] at e
  cases e
noncomputable def nAdd (N:List (Str × Str)) (p:Str × Str):List (Str × Str):=if p∈N then N else N ++ [p]
theorem nAdd_all (l:List (Str × Str)):∀ N:List (Str × Str),N.Nodup→(l.foldl nAdd N).Nodup∧(∀ p,p∈l.foldl nAdd N↔p∈N ∨ p∈l)∧(l.foldl nAdd N).length≤N.length + l.length:=by
  induction l with
  | nil=>exact fun N h=>⟨h,fun p=>by simp,Nat.le_refl _⟩
  | cons q r ih =>
    intro N h
    have h1:(nAdd N q).Nodup:=by
      unfold nAdd
      split
      · exact h
      · rename_i hn
        exact List.nodup_append.mpr ⟨h,List.nodup_cons.mpr ⟨List.not_mem_nil,.nil⟩,fun a ha b hb e=>hn (by rw [← List.mem_singleton.mp hb,← e]; exact ha)⟩
    have h2:∀ p,p∈nAdd N q↔p∈N ∨ p = q:=fun p=>by
      unfold nAdd
      split
      · rename_i hm
        exact ⟨.inl,fun h=>h.elim id fun e=>e ▸ hm⟩
      · rw [List.mem_append,List.mem_singleton]
    have h3:(nAdd N q).length≤N.length + 1:=by
      unfold nAdd
      split
      · wtm_at "om"
      · rw [List.length_append]; exact Nat.le_refl _
    obtain ⟨g1,g2,g3⟩:=ih _ h1
    refine ⟨g1,fun p=>?_,?_⟩
    · rw [List.foldl_cons,g2,h2,List.mem_cons,or_assoc]
    · rw [List.foldl_cons,List.length_cons]; wtm_at "om"
theorem attr_all (l:List (Str × Str)):∀ N:List (Str × Str),(∀ p∈N,NmOk p)→(∀ p∈l,NmOk p)→l.foldl (fun d p=>stored d (nm p) (.str p.1 0)) (kvN N) = kvN (l.foldl nAdd N):=by
  induction l with
  | nil=>exact fun N _ _=>rfl
  | cons q r ih =>
    intro N h1 h2
    have hq:=h2 q (.head _)
    rw [List.foldl_cons,List.foldl_cons]
    have e:stored (kvN N) (nm q) (.str q.1 0) = kvN (nAdd N q):=by
      unfold nAdd
      split
      · rename_i hm
        unfold stored
        rw [if_pos (List.any_eq_true.mpr ⟨(nm q,.str q.1 0),List.mem_map_of_mem (f:=fun p:Str × Str=>((nm p,.str p.1 0):Str × Value)) hm,decide_eq_true rfl⟩)]
        unfold kvN
        rw [List.map_map]
        refine List.map_congr_left fun p hp=>?_
        show (if nm p = nm q then (nm p,Value.str q.1 0) else (nm p,.str p.1 0)) = _
        split
        · rename_i e
          rw [nm_inj (h1 p hp) hq e]
        · rfl
      · rename_i hm
        rw [stored_absent (valueAt_none_of_not_mem fun hk=>?_)]
        · unfold kvN
          rw [List.map_append]; rfl
        · rw [kvN_keys] at hk
          obtain ⟨p,hp,e⟩:=List.mem_map.mp hk
          exact hm (nm_inj (h1 p hp) hq e ▸ hp)
    rw [e]
    refine ih _ (fun p hp=>?_) fun p hp=>h2 p (.tail _ hp)
    unfold nAdd at hp
    split at hp
    · exact h1 p hp
    · rcases List.mem_append.mp hp with hp | hp
      · exact h1 p hp
      · rw [List.mem_singleton.mp hp]; exact hq
theorem sub_len:∀ {l us:List Str},l.Nodup→(∀ u∈l,u∈us)→l.length≤us.length
  | [],_,_,_=>Nat.zero_le _
  | a::l,us,h1,h2=>by
    obtain ⟨h3,h4⟩:=List.nodup_cons.mp h1
    have ha:=h2 a (.head _)
    have:=sub_len (us:=us.erase a) h4 fun u hu=>(List.mem_erase_of_ne (fun e:u = a=>h3 (e ▸ hu))).mpr (h2 u (.tail _ hu))
    rw [List.length_erase_of_mem ha] at this
    have:=List.length_pos_of_mem ha
    rw [List.length_cons]
    wtm_at "om"
theorem same_len {l us:List Str} (h1:l.Nodup) (h2:us.Nodup) (h:∀ u,u∈l↔u∈us):l.length = us.length:=Nat.le_antisymm (sub_len h1 fun u hu=>(h u).mp hu) (sub_len h2 fun u hu=>(h u).mpr hu)
theorem adds_from (l:List Str):(l.foldl nsAdd []).Nodup∧∀ u,u∈l.foldl nsAdd []↔u∈l:=by
  have key:∀ (l us:List Str),us.Nodup→(l.foldl nsAdd us).Nodup∧∀ u,u∈l.foldl nsAdd us↔u∈us ∨ u∈l:=by
    intro l
    induction l with
    | nil=>exact fun us h=>⟨h,fun u=>by simp⟩
    | cons p r ih =>
      intro us h
      obtain ⟨h1,h2⟩:=ih (nsAdd us p) (nsAdd_nodup h)
      exact ⟨h1,fun u=>by rw [List.foldl_cons,h2,nsAdd_mem,List.mem_cons,or_assoc]⟩
  obtain ⟨h1,h2⟩:=key l [] .nil
  exact ⟨h1,fun u=>by rw [h2]; simp⟩
section
variable {st:LSt} {N:List (Str × Str)}
structure NF (st:LSt) (N:List (Str × Str)):Prop where
  fs:LF 6 st
  la:st.addrs.length = 7
  nd:N.Nodup
  mem:∀ p,p∈N↔p∈st.names
  len:N.length≤13
theorem NF.adr (F:NF st N) {a:Str} (h:a∈st.addrs):AdrOk a:=AdrP.ok (F.fs.adr a h)
theorem NF.nok (F:NF st N):∀ r∈tg0::N,NmOk r:=fun r hr=>by
  rcases List.mem_cons.mp hr with rfl | hr
  · exact nm_ok (F.adr F.fs.root) (.inr (.inr (.inr rfl)))
  · obtain ⟨h1,h2⟩:=F.fs.nm1 r ((F.mem r).mp hr)
    exact nm_ok (F.adr h1) h2.ok
theorem NF.fst (F:NF st N) (u:Str):u∈(tg0::N).map (·.1)↔u∈st.addrs:=by
  constructor
  · intro h
    obtain ⟨p,hp,rfl⟩:=List.mem_map.mp h
    rcases List.mem_cons.mp hp with rfl | hp
    · exact F.fs.root
    · exact (F.fs.nm1 p ((F.mem p).mp hp)).1
  · intro h
    exact List.mem_map.mpr ⟨(u,wordA),.tail _ ((F.mem _).mpr (F.fs.nm2 u h)),rfl⟩
theorem NF.tgn (F:NF st N):(tg0::N).Nodup:=List.nodup_cons.mpr ⟨fun h=>by
  have h2:Word3 (Str.ofString "robots"):=(F.fs.nm1 tg0 ((F.mem _).mp h)).2
  have key:¬ Word3 (Str.ofString "robots"):=by unfold Word3; decide +kernel
  exact key h2,F.nd⟩
theorem zip_nums (us:List Str):(dsU us).map (fun p=>(p.2:Int)) = upTo us.length:=by
  unfold dsU upTo
  rw [List.map_map,List.range_eq_range',← List.zipIdx_map_snd,List.map_map]
  rfl
theorem NF.rest (F:NF st N) {ys rs:List (Str × Str)} (p1:ys.Perm (tg0::N)) (p2:ys.Pairwise fun a b=>lex bef bef a b = true) (p3:rs.Perm N) (p4:rs.Pairwise fun a b=>bef (nm a) (nm b) = true) :
    PT st N (pageT ys rs) (hdT (entZ (firsts ys) ++ entR (firsts ys) rs)) (Str.ofString "<n0:robots") ((entZ (firsts ys) ++ entR (firsts ys) rs).map prt) (psZ (firsts ys) ++ psR (firsts ys) rs) (dsU (firsts ys)) (qsR (firsts ys) rs) (fun a=>(firsts ys).idxOf a):=by
  obtain ⟨u1,u2⟩:=firsts_from ys
  have hus:=firsts_sorted p2
  have hmem:∀ u,u∈firsts ys↔u∈st.addrs:=fun u=>by
    rw [u2,← F.fst u]
    exact (p1.map (·.1)).mem_iff
  have hlen:(firsts ys).length = (st.addrs.foldl nsAdd []).length:=same_len u1 (adds_from _).1 fun u=>by rw [hmem,(adds_from _).2]
  have hl9:(firsts ys).length≤9:=Nat.le_trans (sub_len u1 fun u hu=>(hmem u).mp hu) (Nat.le_trans (Nat.le_of_eq F.la) (Nat.le_of_ble_eq_true rfl))
  have hrl:rs.length≤13:=Nat.le_trans (Nat.le_of_eq p3.length_eq) F.len
  have hrm:∀ r∈rs,r∈N:=fun r hr=>p3.mem_iff.mp hr
  have htx:=page_len (N:=N) F.nok (Nat.le_trans F.len (Nat.le_of_ble_eq_true rfl)) hl9 p1 p3
  unfold pageT at htx ⊢
  generalize hU:firsts ys = us at *
  have P:PG us rs:=⟨hl9,u1,fun u hu=>F.adr ((hmem u).mp hu),fun r hr=>by
    obtain ⟨h1,h2⟩:=F.fs.nm1 r ((F.mem r).mp (hrm r hr))
    exact ⟨h2.ok,(hmem _).mpr h1⟩,root_first hus ((hmem _).mpr F.fs.root) fun u hu=>(F.fs.adr u ((hmem u).mp hu)).2.1,Nat.le_trans hrl (Nat.le_of_ble_eq_true rfl)⟩
  have R:RF us N rs:=⟨p3,p4,hus,fun r hr=>by
    obtain ⟨h1,h2⟩:=F.fs.nm1 r ((F.mem r).mp hr)
    exact ⟨(hmem _).mpr h1,F.adr h1,h2⟩⟩
  rw [P.text] at htx ⊢
  have hE:=P.ents
  have hEl:(entZ us ++ entR us rs).length≤22:=by
    unfold entZ entR
    rw [List.length_append,List.length_map,List.length_map,List.length_zipIdx]
    exact Nat.add_le_add hl9 hrl
  have hdl:=hdT_len hE
  have hds:(dsU us).length = us.length:=by unfold dsU; rw [List.length_map,List.length_zipIdx]
  have hrw:∀ l:List (Str × Str),rwQ (qsR us l) = plN (fun a=>us.idxOf a) l:=fun l=>by unfold rwQ qsR plN; rw [List.map_map]; rfl
  have hsp:=split_gt hE
  have hru:∀ (L:List Rule),(∀ r,r∈L↔r∈st.r0 ++ st.r1)→∀ a,a∈st.addrs→allow L a = dueOf (wordsOf (us.idxOf a) ((qsR us rs).drop (rs.idxOf (a,wordA) + 1))):=fun L hL a ha =>
    R.due ((F.mem _).mpr (F.fs.nm2 a ha)) (fun r hr=>(F.mem _).mpr (F.fs.ru1 r ((hL r).mp hr))) fun p b hp=>by
      obtain ⟨r,hr,e⟩:=F.fs.ru2 p b ((F.mem _).mp hp)
      exact ⟨r,(hL r).mpr hr,e⟩
  refine {
    hz:=Nat.le_trans htx (Nat.le_of_ble_eq_true rfl)
    hs1:=by rw [hsp]; exact Nat.le_of_ble_eq_true rfl
    h0:=by rw [hsp]; rfl
    hhl:=Nat.le_trans hdl (Nat.le_trans (Nat.add_le_add_left (Nat.mul_le_mul_left 151 hEl) 10) (Nat.le_of_ble_eq_true rfl))
    hsp:=split_sp hE
    hP:=P.parts
    hn:=by rw [List.length_map]; exact Nat.le_trans hEl (Nat.le_of_ble_eq_true rfl)
    hds:=P.nums
    hrow:=rows_eq
    h1:=fun p hp=>?_
    h2:=fun q hq=>?_
    hn5:=Nat.le_trans (Nat.le_of_eq hds) (Nat.le_trans hl9 (Nat.le_of_ble_eq_true rfl))
    hm5:=by unfold qsR; rw [List.length_map]; exact Nat.le_trans hrl (Nat.le_of_ble_eq_true rfl)
    hv:=by rw [zip_nums,hlen]
    hw:=P.whole
    hf:=fun p hp=>P.val ((hmem _).mpr (F.fs.nm1 p ((F.mem p).mp hp)).1)
    hs:=fun p _=>nm_word p
    hc:=fun p hp=>?_
    hperm:=by rw [hrw]; exact p3.map _
    hnd:=?_
    hfa:=fun a ha=>P.val ((hmem a).mpr ha)
    haa:=fun a ha=>?_
    hdue:=fun a ha=>⟨rs.idxOf (a,wordA),(R.place ((F.mem _).mpr (F.fs.nm2 a ha))).1,(R.place ((F.mem _).mpr (F.fs.nm2 a ha))).2,hru _ (fun _=>Iff.rfl) a ha,hru _ (fun r=>by rw [List.mem_append,List.mem_append,or_comm]) a ha⟩ }
  · obtain ⟨z,hz,rfl⟩:=List.mem_map.mp hp
    obtain ⟨h1,h2⟩:=P.zi hz
    exact ⟨Nat.le_trans (spell_len6 z.1) (Nat.le_trans (Nat.mul_le_mul_left 6 (P.hu _ h2).len) (Nat.le_of_ble_eq_true rfl)),Nat.lt_of_lt_of_le h1 (by decide)⟩
  · obtain ⟨r,hr,rfl⟩:=List.mem_map.mp hq
    have h1:=(P.ix hr).1
    have h2:=(P.hr r hr).1.len
    exact ⟨by rw [hds]; exact h1,Nat.le_trans h2 (by decide)⟩
  · obtain ⟨h1,h2⟩:=F.fs.nm1 p ((F.mem p).mp hp)
    have h3:=F.adr h1
    have h4:=h2.ok.len
    have h5:=h3.len
    refine ⟨?_,Nat.le_trans h5 (Nat.le_of_ble_eq_true rfl),by rw [nm_length]; exact Nat.le_trans (Nat.add_le_add_right (Nat.add_le_add h5 h4) 2) (Nat.le_of_ble_eq_true rfl)⟩
    rw [← Array.all_toList,List.all_eq_true]
    intro c hc
    exact decide_eq_true (Nat.lt_trans (h3.low c hc) (Nat.le_of_ble_eq_true rfl))
  · rw [hrw]
    unfold plN
    refine List.pairwise_map.mpr (R.nodup.imp_of_mem fun {a b} ha hb hne e=>hne ?_)
    have e1:(At.i (us.idxOf a.1:Int)) = At.i (us.idxOf b.1:Int):=congrArg Prod.fst e
    have e2:At.s a.2 = At.s b.2:=congrArg Prod.snd e
    exact Prod.ext (idx_inj (P.hr a ha).2 (P.hr b hb).2 (Int.ofNat.inj (At.i.inj e1))) (At.s.inj e2)
  · have h3:=F.adr ha
    have h5:=h3.len
    refine ⟨?_,Nat.le_trans h5 (Nat.le_of_ble_eq_true rfl)⟩
    rw [← Array.all_toList,List.all_eq_true]
    intro c hc
    exact decide_eq_true (Nat.lt_trans (h3.low c hc) (Nat.le_of_ble_eq_true rfl))
end
theorem plain (is:List Int):∃ N,PL (lst is 6) N:=by
  have O:=lst_ok is 6
  have fs:=lst_f is 6
  obtain ⟨n1,n2,n3⟩:=nAdd_all (lst is 6).names [] .nil
  have F:NF (lst is 6) ((lst is 6).names.foldl nAdd []):=⟨fs,O.la,n1,fun p=>by rw [n2]; simp,by have:=O.ln; simp only [List.length_nil] at n3; omega⟩
  refine ⟨(lst is 6).names.foldl nAdd [],?_,fun p hp=>?_,F.nok,F.tgn,by have:=F.len; omega,fun e=>?_,fun l h1 h2=>?_,fs.mk0,fs.mk1,fun ys rs p1 p2 p3 p4=>⟨_,_,_,_,_,_,_,F.rest p1 p2 p3 p4⟩⟩
  · exact attr_all _ [] (fun _ h=>nomatch h) fun p hp=>F.nok p (.tail _ ((F.mem p).mpr hp))
  · have h1:=F.nok p (.tail _ ((F.mem p).mpr hp))
    exact ⟨h1.l1,h1.l2⟩
  · have:=(F.mem _).mpr (fs.nm2 _ fs.root)
    rw [e] at this
    cases this
  · have:=sub_len h1 fun u hu=>(F.fst u).mp (h2 u hu)
    have:=F.la
    omega
noncomputable def ksK:List Addr:=[3,37,51,52,58,65,66,72,73,74,75,76,77,78,86,87,91,92,93,99,101,109,115,116,117,123,124,130,132,138,139,145,147,154,161,168,169,170,174,175,181,182,188,195,197,198,199,200,201,209,216,217,223,224,228,229,235,236,240,241,245,246]
theorem ksK_eq:∀ P,ksK = (heapK P).map (·.1):=fun _=>by kernel_rfl
noncomputable def vw:Program:=view Challenge.pw_rs0229_01 [0,1,3,4,6,7,8,9,10,11,12,14,15,16,17,18]
noncomputable def looseK:List Str:=[Str.ofString "_twin_re_1", Str.ofString "_namespace_map", Str.ofString "_looks_like_prefix_name", Str.ofString "C14NWriterTarget"]
noncomputable abbrev obsK (s:Shared):List (Option Obj) × Option Obj × Option Obj × Nat × Bool:=(ksK.map s.heap.get?,s.heap.get? 172,s.heap.get? 219,s.heap.objs.size,decide (0 < s.toks))
noncomputable abbrev valK (w:World):List (Option Obj) × Option Obj × Option Obj × Nat × Bool:=((heapK w.params).map (fun p=>some p.2),some (tabObj #[]),some (tabObj #[]),247,true)
noncomputable abbrev RanB (b:Bool):Prop:=∀ w:World,(fencedOpening treeTable Challenge.pw_rs0229_01 w 3218).map (fun s₀=>(topFrom treeTable Challenge.pw_rs0229_01 (w.withFollow "special-get-raises" b) 3218 s₀).map (fun s=>(openSeen vw looseK (importedModules Challenge.pw_rs0229_01.main.body) (fun s=>xlAt vw [] s && recOk [] s) true s,obsK s))) = some (some (openGood vw looseK,valK (w.withFollow "special-get-raises" b)))
theorem ranF:RanB false:=by
  intro w
  delta fencedOpening topFrom
  rw [PySem.W.Fast.te14082659384304107361,PySem.W.Fast.te10274390034422433532,PySem.W.Fast.te14289696077712309145,PySem.W.Fast.te14364793385576792824,PySem.W.Fast.te4187177175401517315,PySem.W.Fast.te5923862056798008813,PySem.W.Fast.te1435165496053646825]
  kernel_rfl
theorem ranT:RanB true:=by
  intro w
  delta fencedOpening topFrom
  rw [PySem.W.Fast.te14082659384304107361,PySem.W.Fast.te10274390034422433532,PySem.W.Fast.te14289696077712309145,PySem.W.Fast.te14364793385576792824,PySem.W.Fast.te4187177175401517315,PySem.W.Fast.te5923862056798008813,PySem.W.Fast.te1435165496053646825]
  kernel_rfl
theorem left:LeftO Challenge.pw_rs0229_01 vw looseK (fun s=>xlAt vw [] s && recOk [] s) obsK valK 3218:=by
  refine LeftO.of_split "special-get-raises" fun w=>?_
  obtain ⟨s,e,f⟩:=Option.map_eq_some_iff.mp (ranF w)
  obtain ⟨s',e',f'⟩:=Option.map_eq_some_iff.mp (ranT w)
  cases e.symm.trans e'
  rw [e]
  exact congrArg some (Prod.ext f f')
theorem said:Challenge.rw_rs0229_01.wellSaid = true:=by
  rw [PySem.W.Fast.te9446332074065402090]
  kernel_rfl
theorem mem_of_look {K:Frag} {a:Addr} {o:Obj} (h:K.lookup a = some o):(a,o)∈K:=by
  induction K with
  | nil=>cases h
  | cons p r ih =>
    rw [List.lookup_cons] at h
    cases q:a == p.1 with
    | true =>
      rw [q] at h
      cases h
      rw [beq_iff_eq.mp q]
      exact .head _
    | false =>
      rw [q] at h
      exact .tail _ (ih h)
theorem heapK_cls (P:Params):∀ a o,(KK P).lookup a = some o→o.cls ≠ .none:=by
  have h:(KK P).all keptO = true:=by kernel_rfl!
  intro a o e q
  have:=List.all_eq_true.mp h (a,o) (mem_of_look e)
  unfold keptO at this
  rw [show (a,o).2.cls = .none from q] at this
  cases this
theorem low_of {h:Heap} (x:h.NoLimit):cStatics < h.objs.size:=by
  obtain ⟨mc,⟨o,es,ep,ho,_⟩,_⟩:=x
  exact Heap.lt_size ho
theorem table_174 {P:Params} {h:Heap} (x:(KK P).In h):∃ o vs,h.get? 174 = some o∧o.cls = .type "code" ∧ o.data = .fields vs∧vs[11]? = some (.ref 172) :=
  ⟨_,_,x 174 _ rfl,rfl,rfl,rfl⟩
theorem table_223 {P:Params} {h:Heap} (x:(KK P).In h):∃ o vs,h.get? 223 = some o∧o.cls = .type "code" ∧ o.data = .fields vs∧vs[11]? = some (.ref 219) :=
  ⟨_,_,x 223 _ rfl,rfl,rfl,rfl⟩
theorem lams_of {q:LamTab} (h:q∈[lam01,lam02]):q = lam01 ∨ q = lam02:=by simpa using h
theorem ns_some_of {K:Frag} {h:Heap} {N:Addr} {mg:Str→Option Value} {n:Str} {v:Value} (X:K.In h) (G:h.Ns N mg) (e:nsIn K N n = some (some v)):mg n = some v:=by
  obtain ⟨o,es,ep,ho,hd,_,hf⟩:=G
  unfold nsIn at e
  cases q:K.lookup N with
  | none=>rw [q] at e; cases e
  | some o' =>
    have y:=X _ _ q
    rw [ho] at y
    cases y
    rw [q] at e
    obtain ⟨c,d,da,sl⟩:=o
    cases hd
    rw [← hf]
    unfold nsFind findBy
    rw [← Array.find?_toList]
    cases he:es.toList.find? (·.key.isStr n) with
    | some x =>
      have e:(match es.toList.find? (·.key.isStr n) with | some e=>some (some e.val) | none=>if es.toList.any (·.refKey) then none else some none) = some (some v):=e
      rw [he] at e
      exact Option.some.inj e
    | none =>
      have e:(match es.toList.find? (·.key.isStr n) with | some e=>some (some e.val) | none=>if es.toList.any (·.refKey) then none else some none) = some (some v):=e
      rw [he] at e
      have e:(if es.toList.any (·.refKey) = true then none else some none) = some (some v):=e
      by_cases hr:es.toList.any (·.refKey) = true
      · rw [if_pos hr] at e; cases e
      · rw [if_neg hr] at e; cases e
theorem ints_er {vs:List Value} {is:List Int} (h:IntsAre vs is):vs.toArray.toList.map er = intL is:=by
  induction h with
  | nil=>rfl
  | cons n t _ ih=>exact congrArg (Value.int n 0::·) ih
theorem theCall {w:World} {s₀ s₁:Shared} {mg mb:Str→Option Value} (G:Ground vw looseK Challenge.rw_rs0229_01.row.records (XL vw []) w s₀ mg mb s₁.heap) (Y:obsK s₀ = valK w) {fa:Addr} (hmg:mg (Str.ofString "law") = some (.ref fa)) (hg:s₁.gens = #[])
    {args:List WData} {vals:List Value} {as:List Addr} (L:Laid Challenge.rw_rs0229_01.row.toRowW.records w s₀ s₁ args vals as) (hpre:Challenge.rw_rs0229_01.row.toRowW.claim.pre args = true) (hlay:WData.layableAll args = true)
    (hrd:ReadsAllW Challenge.rw_rs0229_01.row.toRowW.records (classAt s₀.heap) s₁.heap vals args as) (hwl:WellAll w.params s₁.heap vals args) (hlo:∀ a∈as,(a == sysModules) = false) :
    wpAny (model Challenge.rw_rs0229_01.row.toRowW.prog w) callerA (call (.ref fa) vals) (fun v s'=>GoodWG Challenge.rw_rs0229_01.row.toRowW.claim (classAt s₀.heap) (ExcName.means s₀.heap) args s₁ (.ok (.ret v)) s')
      (fun e s'=>GoodWG Challenge.rw_rs0229_01.row.toRowW.claim (classAt s₀.heap) (ExcName.means s₀.heap) args s₁ (.error e) s') s₁:=by
  wrow_args hpre hlay hrd hwl hlo
  rename_i is _ _ _ _ _ _ _ sl vs _ hL _ _ _ hI _ hlen _
  have hz:is.length≤63:=by wtm_at "om"
  have y1:ksK.map s₀.heap.get? = (heapK w.params).map fun p=>some p.2:=congrArg Prod.fst Y
  have y2:s₀.heap.get? 172 = some (tabObj #[]):=congrArg (fun x=>x.2.1) Y
  have y3:s₀.heap.get? 219 = some (tabObj #[]):=congrArg (fun x=>x.2.2.1) Y
  have y4:decide (0 < s₀.toks) = true:=congrArg (fun x=>x.2.2.2.2) Y
  have htk:0 < s₁.toks:=Nat.lt_of_lt_of_le (of_decide_eq_true y4) (script_toks L rfl)
  have KI:(KK w.params).In s₁.heap:=InK.keeps w s₀.heap s₁.heap (InK.of ksK_eq w s₀ y1) L.keeps
  have t1:=L.keeps _ _ y2
  have t2:=L.keeps _ _ y3
  obtain ⟨e1,e2⟩:=script_at L
  obtain ⟨oL,hoL,cL,nL,dL⟩:=hL
  have hfa:fa = 246:=by
    have:=ns_some_of KI G.T.g (n:=Str.ofString "law") (v:=.ref 246) (by kernel_rfl!)
    rw [this] at hmg
    cases hmg
    rfl
  subst hfa
  let C:Cx:={
    h₀:=s₁.heap,os:=s₁.os,K:=KK w.params,kin:=KI
    kcls:=heapK_cls w.params
    lim:=G.T.nolimit
    low:=low_of G.T.nolimit
    last:=⟨sl,oL,hoL,by rw [e2,e1]⟩
    mb:=mb,bns:=G.T.b,bb:=G.T.builtins,mg:=mg,gns:=G.T.g,bmain:=G.T.bmain
    lams:=[lam01,lam02]
    lamlow:=fun q hq=>by
      rcases lams_of hq with rfl | rfl
      · exact Heap.lt_size t1
      · exact Heap.lt_size t2
    lamtab:=fun q hq=>by
      rcases lams_of hq with rfl | rfl
      · exact ⟨by decide,174,#[],table_174 KI,t1⟩
      · exact ⟨by decide,223,#[],table_223 KI,t2⟩
    lamsame:=fun q hq r hr e=>by
      rcases lams_of hq with rfl | rfl <;> rcases lams_of hr with rfl | rfl
      · exact ⟨rfl,rfl⟩
      · exact absurd e (by decide)
      · exact absurd e (by decide)
      · exact ⟨rfl,rfl⟩ }
  have S:Sat C [] s₁:=⟨.refl _,rfl,fun _ h=>(nomatch h),fun _ h=>(nomatch h),.nil,rfl,.of_eq hg,fun _ h=>(nomatch h),htk,fun q hq=>by
    rcases lams_of hq with rfl | rfl
    · exact ⟨⟨#[],t1,trivial,fun _ h=>by cases h⟩,fun _ h=>by cases h⟩
    · exact ⟨⟨#[],t2,trivial,fun _ h=>by cases h⟩,fun _ h=>by cases h⟩⟩
  have R:Rm 60 callerA:=⟨rfl,by decide +kernel,by decide +kernel⟩
  have hx:vs.toArray.toList.map er = intL is:=ints_er hI
  refine wpAny_mono (law_done (prog:=Challenge.rw_rs0229_01.row.prog) (w:=w) (C:=C) rfl (by simp [C]) (by simp [C]) R ⟨oL,hoL,cL,nL,dL⟩ hx hz (plain is) S) ?_ fun _ _ h=>h.elim
  rintro v s' ⟨rfl,S'⟩
  exact ⟨.inl ⟨_,.bool true,[],rfl,fun _=>rfl,.bool true,by wrow_post,fun _=>⟨.nil,fun _ h=>(nomatch h)⟩⟩,S'.old,S'.os,S'.gens⟩
theorem fin:Challenge.rw_rs0229_01.Holds:=by
  refine holds_law said fun sd=>?_
  refine holds_openX (q:=vw) (loose:=looseK) (Xt:=fun s=>xlAt vw [] s && recOk [] s) (XP:=XL vw []) (Yf:=obsK) (Ya:=valK) (N:=3218) left (fun s e=>xl_of s (Bool.and_eq_true_iff.mp e).1) XL.keeps (by rfl) (by rfl) (by rfl) (fun s e=>recFacts_of (Bool.and_eq_true_iff.mp e).2) (by rfl) sd (by decide +kernel) ⟨rfl,rfl,rfl,rfl,rfl,by decide +kernel⟩ ?hw ?hc
  case hw=>w_witness2
  case hc =>
    intro w s₀ s₁ mg mb G Y fa o pm cd doc dV kV ho hd hcd hD hmg hg args vals as L hpre hlay hrd hwl hlo
    exact theCall G Y hmg hg L hpre hlay hrd hwl hlo
end R3
set_option maxRecDepth 100000 in
set_option maxHeartbeats 8000000 in
theorem PySem.Challenge.cw_rs0229_01_holds : PySem.Challenge.rw_rs0229_01.Holds :=
  R3.fin
