import PyProof.Rows.All
import Open.Boot
import KE.KIntText
import OpenK.AllK
import Wide.All
import Lean
import PySem.Challenge.RW_oy0429_01
set_option Elab.async false
set_option autoImplicit false
set_option linter.all false
set_option maxRecDepth 100000
set_option maxHeartbeats 0
set_option compiler.extract_closed false
set_option genSizeOf false
set_option genInjectivity false
set_option genCtorIdx false
set_option bootstrap.genMatcherCode false
open PySem PySem.W PySem.Calls PyProof.Rows
namespace Mine
theorem H.said : PySem.Challenge.rw_oy0429_01.wellSaid = true := by kernel_rfl
end Mine
namespace Mine.Internal
@[elab_as_elim] theorem rwB.{u} {α : Sort u} {a b : α} {motive : α → Prop} (h : a = b) (r : motive b) : motive a := h ▸ r
@[elab_as_elim] theorem rwC.{u} {α : Sort u} {a b : α} {motive : α → Prop} (h : a = b) (r : motive a) : motive b := h ▸ r
@[elab_as_elim] theorem rwI {a b : Prop} {motive : Prop → Prop} (h : a ↔ b) (r : motive b) : motive a := propext h ▸ r
@[elab_as_elim] theorem rwJ {a b : Prop} {motive : Prop → Prop} (h : a ↔ b) (r : motive a) : motive b := propext h ▸ r

namespace Zm
def ks : List Lean.Name := ("null Lean.Parser.Term.syntheticHole Lean.Parser.Tactic.refine' Lean.Parser.Tactic.tacticSeq1Indented Lean.Parser.Tactic.tacticSeq Lean.Parser.Tactic.paren hygieneInfo Lean.Parser.Term.hygienicLParen Lean.Parser.Term.typeAscription Lean.Parser.Tactic.exact Lean.Parser.Tactic.tacticRepeat_ tacticKernel_rfl Lean.Parser.Tactic.decide Lean.Parser.Tactic.optConfig Lean.Parser.Tactic.assumption Lean.Parser.Tactic.intro Lean.Parser.Tactic.tacticRfl Lean.Parser.Term.byTactic Lean.Parser.Term.noImplicitLambda Lean.Parser.Tactic.generalize Lean.Parser.Tactic.generalizeArg Lean.Parser.Tactic.locationHyp Lean.Parser.Tactic.location Lean.Parser.Tactic.replace Lean.Parser.Term.letId Lean.Parser.Term.letIdDecl Lean.Parser.Term.letDecl Lean.Parser.Tactic.obtain Lean.Parser.Tactic.rcasesPat.one Lean.Parser.Tactic.rcasesPat.ignore Lean.Parser.Tactic.rcasesPatMed Lean.Parser.Tactic.rcasesPatLo Lean.Parser.Tactic.rcasesPat.tuple Lean.Parser.Tactic.revert Lean.Parser.Tactic.subst Lean.Parser.Tactic.tacticTry_ Lean.Parser.Term.let Lean.Parser.Term.letConfig Lean.Parser.Term.typeSpec Lean.Parser.Term.anonymousCtor Lean.Parser.Tactic.clear Lean.Parser.Tactic.fail Lean.Parser.Term.ellipsis Lean.Parser.Tactic.rewriteSeq Lean.Parser.Tactic.rwRuleSeq Lean.Parser.Tactic.configItem Lean.Parser.Tactic.negConfigItem Lean.Parser.Command.noncomputable Lean.Parser.Term.hole Lean.Parser.Tactic.refine Lean.Parser.Tactic.first group Lean.Parser.Tactic.withReducible Lean.Parser.Tactic.case Lean.Parser.Tactic.caseArg Lean.binderIdent Lean.Parser.Term.app".splitOn " ").map String.toName
def nd (k : Nat) (l : List Lean.Syntax) : Lean.Syntax := .node .none (ks.getD k .anonymous) l.toArray
def aT (s : String) : Lean.Syntax := .atom .none s
def sq (l : List Lean.Syntax) : Lean.Syntax := nd 4 [nd 3 [nd 0 (l.intersperse (aT ";"))]]
def id_ (q : String) : Lean.Syntax := Lean.mkIdent (if q == "" then .anonymous else q.toName)
def nm (c : Char) (q : String) (a : List Lean.Syntax) : Lean.Syntax :=
  let h := a.headD .missing
  if c == ';' then sq a
  else if c == '|' then nd 50 [aT "first", nd 0 (a.map fun t => nd 51 [aT "|", sq [t]])]
  else if c == '(' then nd 5 [aT "(", sq a, aT ")"]
  else if c == ':' then nd 56 [h, nd 0 a.tail]
  else if c == '~' then nd 49 [aT "refine", h]
  else if c == '!' then nd 52 [aT "with_reducible", sq [h]]
  else if c == '=' then nd 49 [aT "refine", nd 8 [nd 7 [aT "(", nd 6 [id_ ""]], nd 1 [aT "?", aT "_"], aT ":", nd 0 [h], aT ")"]]
  else if c == '#' then nd 53 [aT "case", nd 0 [nd 54 [nd 55 [id_ ("m" ++ q)], nd 0 []]], aT "=>", sq [h]]
  else nd (c.toNat - if c.toNat < 97 then 65 else 71) a
def go (ps s : List Lean.Syntax) (t : String) : List Lean.Syntax :=
  let c := t.front
  let q := (t.drop 1).toString
  if c == '\'' then aT q :: s else if c == '.' then id_ q :: s else if c == '$' then ps.getD q.toNat! .missing :: s
  else if c == '_' then nd 48 [aT "_"] :: s else if c == '?' then nd 1 [aT "?", if q == "" then aT "_" else id_ ("m" ++ q)] :: s
  else
    let n := if c == '~' || c == '=' || c == '!' || c == '#' then 1 else q.toNat!
    nm c q (s.take n).reverse :: s.drop n
def rp (ps : List Lean.Syntax) (w : String) : Lean.Syntax := ((w.splitOn " ").foldl (go ps) []).headD .missing
def un (l : List String) : String := " ".intercalate l
def na (p : String) (k : Nat) : String := p ++ toString k
def g1 (loc e x : String) : String := "'generalize A0 " ++ e ++ " '= ." ++ x ++ " U4 A1" ++ loc ++ " T3"
def gens (loc : String) (p : List String) : List String := p.zipIdx.flatMap fun (x, i) => if i + 1 == p.length then [g1 loc (na ".zp" i) x] else [g1 loc (na ".Prod.fst .zp" i ++ " :2") x, g1 loc (na ".Prod.snd .zp" i ++ " :2") (na "zp" (i + 1))]
def gen (c loc : String) (p : List String) : String :=
  let k := p.length
  un (g1 loc (un (("." ++ na c k) :: List.replicate (k + 1) "_") ++ na " :" (k + 2)) "zp0" :: gens loc p ++ ["'clear", un ((List.range k).map (na ".zp")), na "A" k, "o2", na "(" (2 * k + 1)])
def call (c e : String) (p : List String) : String := un (("." ++ na c p.length) :: List.replicate p.length "'by 'exact .neF2 J2 ! 'exact .neF1 J2 ! 'exact .neL J2 ! 'exact .neN J2 ! 'exact .neI J2 ! 'exact .neStr J2 ! 'exact .nePV J2 ! 'exact .neSt J2 ! 'exact .nePO J2 ! 'exact .neO J2 ! 'exact .neB J2 ! 'exact .neCx J2 ! 'exact .neZ J2 ! 'exact .neSh J2 ! 'exact .neHp J2 ! 'exact .neFl J2 ! 'exact .neWo J2 ! 'exact .neAr J2 ! 'exact .neF3 J2 ! 'exact .neF4 J2 ! 'exact .inferInstance J2 ! |21 ;1 R2") ++ e ++ na " :" (p.length + 2)
def grp (x : String) : List String := (x.splitOn ",").filter (· ≠ "")
def iT (l : List String) : List String := l.map fun x => if x.contains ',' then ("'no_implicit_lambda% " ++ call "all" " ?" (grp x) ++ " S2 ~ " ++ gen "w" " A0" (grp x) ++ " (2")
  else ("'intro " ++ (if x == "_" then x else "." ++ x) ++ " A1 P2")
def eT (h : String) (l : List String) : List String := l.zipIdx.map fun (x, i) => if x.contains ',' then ("'replace " ++ h ++ " Y1 A0 A0 ':= " ++ call "ex" (" " ++ h) (grp x) ++ " Z5 a1 X2 " ++ gen "u" (" 'at " ++ h ++ " A1 V1 W2 A1") (grp x) ++ " (2")
  else if i + 1 == l.length then (if x == "rfl" then "'subst " ++ h ++ " A1 i2" else "'revert " ++ h ++ " A1 h2 'intro ." ++ x ++ " A1 P2 (2")
  else ("'obtain '⟨ " ++ (if x == "_" then "'_ d1" else "." ++ x ++ " c1") ++ " A1 e1 A0 f2 ', " ++ h ++ " c1 A1 e1 A0 f2 A3 '⟩ g3 A1 e1 A1 A0 ':= " ++ h ++ " A1 A2 b4")
def row (l : List String) : String := un l ++ na " (" l.length
def W : String := "'repeat .WE _ _ _ _ :5 = ! .WE _ .PySem.Expr.Name _ _ :3 _ _ :5 = ! 'refine' .e_var ?0 ?1 ? :4 C2 ! 'exact .rfl J2 #0 'exact .rfl J2 #1 (3 'refine' .e_G ?0 ?1 ? ?3 :5 C2 ! 'assumption O1 #0 'exact .rfl J2 #1 'exact .rfl J2 #3 (4 'refine' .e_B ?0 ?1 ? ?3 :5 C2 ! 'assumption O1 #0 'exact .rfl J2 #1 'exact .rfl J2 #3 (4 'refine' .nm_hexdigits ?0 ? ?2 :4 C2 ! 'assumption O1 #0 'exact .rfl J2 #2 (3 'refine' .nm_CRLF ?0 ? ?2 :4 C2 ! 'assumption O1 #0 'exact .rfl J2 #2 (3 'refine' .nm_NODE_OUT ?0 ? ?2 :4 C2 ! 'assumption O1 #0 'exact .rfl J2 #2 (3 'refine' .nm_NODE_DONE ?0 ? ?2 :4 C2 ! 'assumption O1 #0 'exact .rfl J2 #2 (3 |7 (2 .WE _ .PySem.Expr.Constant _ _ _ :4 _ _ :5 = ! .e_int ? :2 ~ ! .e_str ? :2 ~ ! .e_none ? :2 ~ ! .e_bool ? :2 ~ ! |4 (2 .WE _ .PySem.Expr.Call _ _ _ _ :5 _ _ :5 = ! 'refine' .cl_G ?0 ?1 ? ?3 ?4 ?5 ?6 :8 C2 ! 'assumption O1 #0 'exact .rfl J2 #1 'exact .rfl J2 #3 'exact .rfl J2 #4 'exact .rfl J2 #5 'exact .rfl J2 #6 (7 'refine' .cl_B ?0 ?1 ? ?3 ?4 ?5 ?6 :8 C2 ! 'assumption O1 #0 'exact .rfl J2 #1 'exact .rfl J2 #3 'exact .rfl J2 #4 'exact .rfl J2 #5 'exact .rfl J2 #6 (7 'refine' .cl_Sorter ?0 ? ?2 ?3 :5 C2 ! 'assumption O1 #0 'exact .rfl J2 #2 'exact .rfl J2 #3 (4 'refine' .cl_set0 ?0 ? ?2 ?3 :5 C2 ! 'assumption O1 #0 'exact .rfl J2 #2 'exact .rfl J2 #3 (4 |4 (2 .e_bin ? :2 ~ ! .e_un ? :2 ~ ! .e_if ? :2 ~ ! 'refine' .e_cmp ? ?1 :3 C2 ! 'exact .rfl J2 #1 (2 'refine' .e_sub ? ?1 :3 C2 ! 'intro _ _ A2 P2 'rfl Q1 (2 #1 (2 .e_slice ? :2 ~ ! .e_list ? :2 ~ ! .e_tuple ? :2 ~ ! 'refine' .e_attr ? ?1 :3 C2 ! 'kernel_rfl L1 #1 (2 .e_named ? :2 ~ ! .e_dict0 ? :2 ~ ! |14 (2 .WS _ _ _ _ :5 = ! .s_cons ? :2 ~ ! .s_nil ? :2 ~ ! |2 (2 .W1 _ _ _ _ :5 = ! .s_if ? :2 ~ ! .s_ret ? :2 ~ ! .s_pass ? :2 ~ ! .s_cont ? :2 ~ ! .s_brk ? :2 ~ ! 'refine' .s_assign ? ?1 ?2 ?3 :5 C2 ! 'exact .rfl J2 #1 'exact .rfl J2 #2 'exact .rfl J2 #3 (4 'refine' .s_assignC ? ?1 ?2 ?3 ?4 ?5 :7 C2 ! 'exact .rfl J2 #1 'exact .rfl J2 #2 'exact .rfl J2 #3 'exact .rfl J2 #4 'exact .rfl J2 #5 (6 'refine' .s_expr ? ?1 ?2 :4 C2 ! 'exact .rfl J2 #1 'exact .rfl J2 #2 (3 'refine' .s_aug ?0 ?1 ?2 ? :5 C2 ! 'exact .rfl J2 #0 'exact .rfl J2 #1 'exact .rfl J2 #2 (4 .s_augA ? :2 ~ ! 'refine' .s_assignG ? ?1 ?2 ?3 :5 C2 ! 'exact .rfl J2 #1 'exact .rfl J2 #2 'exact .rfl J2 #3 (4 |11 (2 .WT _ _ _ _ :5 = ! .t_or ? :2 ~ ! .t_and ? :2 ~ ! .t_or_nil ? :2 ~ ! .t_and_nil ? :2 ~ ! .t_not ? :2 ~ ! 'refine' .t_cmp ? ?1 :3 C2 ! 'exact .rfl J2 #1 (2 'refine' .t_chain ? ?1 :3 C2 ! 'exact .rfl J2 #1 (2 |7 (2 .P2 _ _ _ _ _ _ :7 = ! .c_eq ? :2 ~ ! .c_ne ? :2 ~ ! .c_lt ? :2 ~ ! .c_le ? :2 ~ ! .c_gt ? :2 ~ ! .c_ge ? :2 ~ ! .c_eqs ? :2 ~ ! .c_nes ? :2 ~ ! .c_ins ? :2 ~ ! .c_nins ? :2 ~ ! .c_gts ? :2 ~ ! .c_lts ? :2 ~ ! .b_add ? :2 ~ ! .b_sub ? :2 ~ ! .i_add ? :2 ~ ! .i_sub ? :2 ~ ! 'refine' .b_mod ?0 ? :3 C2 ! 'decide A0 N1 M2 #0 (2 'refine' .b_div ?0 ?1 ? :4 C2 ! 'decide A0 N1 M2 #0 'exact .PyProof.noPylong_small 'by 'decide A0 N1 M2 ;1 R2 :2 J2 #1 (3 |18 (2 .WA _ _ _ _ _ :6 = ! .a_nil ? :2 ~ ! 'refine' .a_cons ? ?1 :3 C2 ! 'exact .rfl J2 #1 (2 |2 (2 .PA _ _ _ _ _ :6 = ! 'refine' .pa_name ?0 ?1 ? :4 C2 ! 'exact .rfl J2 #0 'exact .rfl J2 #1 (3 'refine' .pa_cell ?0 ?1 ?2 ?3 ? :6 C2 ! 'exact .rfl J2 #0 'exact .rfl J2 #1 'exact .rfl J2 #2 'exact .rfl J2 #3 (5 .pa_attr ? :2 ~ ! .pa_sub ? :2 ~ ! |4 (2 .pas_nil ? :2 ~ ! .pas_cons ? :2 ~ ! .u_neg ? :2 ~ ! .pt_bool ? :2 ~ ! .pt_none ? :2 ~ ! .ite_tt ? :2 ~ ! .ite_ff ? :2 ~ ! .wp_some ? :2 ~ ! .wp_none ? :2 ~ ! .wi_nil ? :2 ~ ! .wi_one ? :2 ~ ! .κ7 _ _ :3 = ! .kk7 _ _ ? :4 ~ (2 .κ6 _ _ :3 = ! .kk6 _ _ ? :4 ~ (2 .κ5 _ _ :3 = ! .kk5 _ _ ? :4 ~ (2 .κ4 _ _ :3 = ! .kk4 _ _ ? :4 ~ (2 .κ3 _ _ :3 = ! .kk3 _ _ ? :4 ~ (2 .κ2 _ _ :3 = ! .kk2 _ _ ? :4 ~ (2 .κ1 _ _ :3 = ! .kk1 _ _ ? :4 ~ (2 .κ0 _ _ :3 = ! .kk0 _ _ ? :4 ~ (2 .κ6' _ :2 = ! .kj6 _ ? :3 ~ (2 .κ5' _ :2 = ! .kj5 _ ? :3 ~ (2 .κ4' _ :2 = ! .kj4 _ ? :3 ~ (2 |29 ;1 K2"
def K : String := "'refine' .e_meth1 .PySem.F.plainAttrs_str .PySem.F.slot_str_join .PySem.F.type_str_join ? ?4 ?5 ?6 ?7 ?8 :10 C2 ! 'kernel_rfl L1 #4 'kernel_rfl L1 #5 'exact .rfl J2 #6 'exact .rfl J2 #7 'exact .rfl J2 #8 (6 'refine' .e_meth0 .PySem.F.plainAttrs_str .PySem.F.slot_str_join .PySem.F.type_str_join ? ?4 ?5 :7 C2 ! 'kernel_rfl L1 #4 'exact .rfl J2 #5 (3 'refine' .e_meth1 .PySem.F.plainAttrs_str .PySem.F.slot_str_rstrip .PySem.F.type_str_rstrip ? ?4 ?5 ?6 ?7 ?8 :10 C2 ! 'kernel_rfl L1 #4 'kernel_rfl L1 #5 'exact .rfl J2 #6 'exact .rfl J2 #7 'exact .rfl J2 #8 (6 'refine' .e_meth0 .PySem.F.plainAttrs_str .PySem.F.slot_str_rstrip .PySem.F.type_str_rstrip ? ?4 ?5 :7 C2 ! 'kernel_rfl L1 #4 'exact .rfl J2 #5 (3 'refine' .e_meth1 .PySem.F.plainAttrs_str .PySem.F.slot_str_endswith .PySem.F.type_str_endswith ? ?4 ?5 ?6 ?7 ?8 :10 C2 ! 'kernel_rfl L1 #4 'kernel_rfl L1 #5 'exact .rfl J2 #6 'exact .rfl J2 #7 'exact .rfl J2 #8 (6 'refine' .e_meth0 .PySem.F.plainAttrs_str .PySem.F.slot_str_endswith .PySem.F.type_str_endswith ? ?4 ?5 :7 C2 ! 'kernel_rfl L1 #4 'exact .rfl J2 #5 (3 'refine' .e_meth1 .PySem.F.plainAttrs_str .PySem.F.slot_str_splitlines .PySem.F.type_str_splitlines ? ?4 ?5 ?6 ?7 ?8 :10 C2 ! 'kernel_rfl L1 #4 'kernel_rfl L1 #5 'exact .rfl J2 #6 'exact .rfl J2 #7 'exact .rfl J2 #8 (6 'refine' .e_meth0 .PySem.F.plainAttrs_str .PySem.F.slot_str_splitlines .PySem.F.type_str_splitlines ? ?4 ?5 :7 C2 ! 'kernel_rfl L1 #4 'exact .rfl J2 #5 (3 'refine' .e_meth1 .PySem.F.plainAttrs_str .PySem.F.slot_str_split .PySem.F.type_str_split ? ?4 ?5 ?6 ?7 ?8 :10 C2 ! 'kernel_rfl L1 #4 'kernel_rfl L1 #5 'exact .rfl J2 #6 'exact .rfl J2 #7 'exact .rfl J2 #8 (6 'refine' .e_meth0 .PySem.F.plainAttrs_str .PySem.F.slot_str_split .PySem.F.type_str_split ? ?4 ?5 :7 C2 ! 'kernel_rfl L1 #4 'exact .rfl J2 #5 (3 'refine' .e_meth1 .PySem.F.plainAttrs_str .PySem.F.slot_str_translate .PySem.F.type_str_translate ? ?4 ?5 ?6 ?7 ?8 :10 C2 ! 'kernel_rfl L1 #4 'kernel_rfl L1 #5 'exact .rfl J2 #6 'exact .rfl J2 #7 'exact .rfl J2 #8 (6 'refine' .e_meth0 .PySem.F.plainAttrs_str .PySem.F.slot_str_translate .PySem.F.type_str_translate ? ?4 ?5 :7 C2 ! 'kernel_rfl L1 #4 'exact .rfl J2 #5 (3 'refine' .e_meth1 .PySem.F.plainAttrs_list .PySem.F.slot_list_append .PySem.F.type_list_append ? ?4 ?5 ?6 ?7 ?8 :10 C2 ! 'kernel_rfl L1 #4 'kernel_rfl L1 #5 'exact .rfl J2 #6 'exact .rfl J2 #7 'exact .rfl J2 #8 (6 'refine' .e_meth0 .PySem.F.plainAttrs_list .PySem.F.slot_list_append .PySem.F.type_list_append ? ?4 ?5 :7 C2 ! 'kernel_rfl L1 #4 'exact .rfl J2 #5 (3 'refine' .e_meth1 .PySem.F.plainAttrs_list .PySem.F.slot_list_extend .PySem.F.type_list_extend ? ?4 ?5 ?6 ?7 ?8 :10 C2 ! 'kernel_rfl L1 #4 'kernel_rfl L1 #5 'exact .rfl J2 #6 'exact .rfl J2 #7 'exact .rfl J2 #8 (6 'refine' .e_meth0 .PySem.F.plainAttrs_list .PySem.F.slot_list_extend .PySem.F.type_list_extend ? ?4 ?5 :7 C2 ! 'kernel_rfl L1 #4 'exact .rfl J2 #5 (3 'refine' .e_meth1 .PySem.F.plainAttrs_list .PySem.F.slot_list_clear .PySem.F.type_list_clear ? ?4 ?5 ?6 ?7 ?8 :10 C2 ! 'kernel_rfl L1 #4 'kernel_rfl L1 #5 'exact .rfl J2 #6 'exact .rfl J2 #7 'exact .rfl J2 #8 (6 'refine' .e_meth0 .PySem.F.plainAttrs_list .PySem.F.slot_list_clear .PySem.F.type_list_clear ? ?4 ?5 :7 C2 ! 'kernel_rfl L1 #4 'exact .rfl J2 #5 (3 'refine' .e_meth1 .PySem.F.plainAttrs_list .PySem.F.slot_list_pop .PySem.F.type_list_pop ? ?4 ?5 ?6 ?7 ?8 :10 C2 ! 'kernel_rfl L1 #4 'kernel_rfl L1 #5 'exact .rfl J2 #6 'exact .rfl J2 #7 'exact .rfl J2 #8 (6 'refine' .e_meth0 .PySem.F.plainAttrs_list .PySem.F.slot_list_pop .PySem.F.type_list_pop ? ?4 ?5 :7 C2 ! 'kernel_rfl L1 #4 'exact .rfl J2 #5 (3 |20"
def mac (w : String) : String :=
  let l := w.splitOn " "
  let h := l.headD ""
  let r := l.tail
  if w == "w" then W else if w == "k" then K else if w == "d" then "'refine' .e_mT1 .PySem.F.plainAttrs_dict .PySem.F.slot_dict_get .PySem.F.type_dict_get ? ?4 ?5 ?6 ?7 ?8 :10 C2 ! 'kernel_rfl L1 #4 'kernel_rfl L1 #5 'exact .rfl J2 #6 'exact .rfl J2 #7 'exact .rfl J2 #8 (6 'refine' .e_mT1 .PySem.F.plainAttrs_set .PySem.F.slot_set_add .PySem.F.type_set_add ? ?4 ?5 ?6 ?7 ?8 :10 C2 ! 'kernel_rfl L1 #4 'kernel_rfl L1 #5 'exact .rfl J2 #6 'exact .rfl J2 #7 'exact .rfl J2 #8 (6 'refine' .e_mT0 .PySem.F.plainAttrs_dict .PySem.F.slot_dict_values .PySem.F.type_dict_values ? ?4 ?5 :7 C2 ! 'kernel_rfl L1 #4 'exact .rfl J2 #5 (3 'refine' .e_methF ?0 .KnC.m_info ?0 :2 ? ?3 ?4 ?5 ?6 ?7 :9 C2 ! 'assumption O1 #0 'kernel_rfl L1 #3 'kernel_rfl L1 #4 'exact .rfl J2 #5 'exact .rfl J2 #6 'exact .rfl J2 #7 (7 'refine' .e_methF0 ?0 .KnC.m_info ?0 :2 ? ?3 ?4 :6 C2 ! 'assumption O1 #0 'kernel_rfl L1 #3 'exact .rfl J2 #4 (4 'refine' .e_methF ?0 .KnC.m_add ?0 :2 ? ?3 ?4 ?5 ?6 ?7 :9 C2 ! 'assumption O1 #0 'kernel_rfl L1 #3 'kernel_rfl L1 #4 'exact .rfl J2 #5 'exact .rfl J2 #6 'exact .rfl J2 #7 (7 'refine' .e_methF0 ?0 .KnC.m_add ?0 :2 ? ?3 ?4 :6 C2 ! 'assumption O1 #0 'kernel_rfl L1 #3 'exact .rfl J2 #4 (4 'refine' .e_methF ?0 .KnC.m_ready ?0 :2 ? ?3 ?4 ?5 ?6 ?7 :9 C2 ! 'assumption O1 #0 'kernel_rfl L1 #3 'kernel_rfl L1 #4 'exact .rfl J2 #5 'exact .rfl J2 #6 'exact .rfl J2 #7 (7 'refine' .e_methF0 ?0 .KnC.m_ready ?0 :2 ? ?3 ?4 :6 C2 ! 'assumption O1 #0 'kernel_rfl L1 #3 'exact .rfl J2 #4 (4 'refine' .e_methF ?0 .KnC.m_active ?0 :2 ? ?3 ?4 ?5 ?6 ?7 :9 C2 ! 'assumption O1 #0 'kernel_rfl L1 #3 'kernel_rfl L1 #4 'exact .rfl J2 #5 'exact .rfl J2 #6 'exact .rfl J2 #7 (7 'refine' .e_methF0 ?0 .KnC.m_active ?0 :2 ? ?3 ?4 :6 C2 ! 'assumption O1 #0 'kernel_rfl L1 #3 'exact .rfl J2 #4 (4 'refine' .e_methF ?0 .KnC.m_cycle ?0 :2 ? ?3 ?4 ?5 ?6 ?7 :9 C2 ! 'assumption O1 #0 'kernel_rfl L1 #3 'kernel_rfl L1 #4 'exact .rfl J2 #5 'exact .rfl J2 #6 'exact .rfl J2 #7 (7 'refine' .e_methF0 ?0 .KnC.m_cycle ?0 :2 ? ?3 ?4 :6 C2 ! 'assumption O1 #0 'kernel_rfl L1 #3 'exact .rfl J2 #4 (4 |13" else if w == "j" then row [K, W, "'⟨ .rfl ', ? A3 '⟩ n3 ~", W] else if w == "v" then "'let A0 l1 .v0 Y1 A0 ': .List .Option .PV :2 :2 m2 A1 ':= _ Z5 a1 '; '( . G1 H2 ? ': .PA _ _ _ '⟨ .v0 ', _ A3 '⟩ n3 _ :6 A1 ') I5 k5 ~ 'let A0 l1 .v0 Y1 A0 ': .List .Option .PV :2 :2 m2 A1 ':= _ Z5 a1 '; '( . G1 H2 ? ': .WE _ _ '⟨ .v0 ', _ A3 '⟩ n3 _ :5 A1 ') I5 k5 ~ 'let A0 l1 .v0 Y1 A0 ': .List .Option .PV :2 :2 m2 A1 ':= _ Z5 a1 '; '( . G1 H2 ? ': .WT _ _ '⟨ .v0 ', _ A3 '⟩ n3 _ :5 A1 ') I5 k5 ~ 'let A0 l1 .v0 Y1 A0 ': .List .Option .PV :2 :2 m2 A1 ':= _ Z5 a1 '; '( . G1 H2 ? ': .W1 _ _ '⟨ .v0 ', _ A3 '⟩ n3 _ :5 A1 ') I5 k5 ~ 'let A0 l1 .v0 Y1 A0 ': .List .Option .PV :2 :2 m2 A1 ':= _ Z5 a1 '; '( . G1 H2 ? ': .WS _ _ '⟨ .v0 ', _ A3 '⟩ n3 _ :5 A1 ') I5 k5 ~ |5" else if w == "kk" then ".κ7 _ _ :3 = ! .kk7 _ _ ? :4 ~ (2 .κ6 _ _ :3 = ! .kk6 _ _ ? :4 ~ (2 .κ5 _ _ :3 = ! .kk5 _ _ ? :4 ~ (2 .κ4 _ _ :3 = ! .kk4 _ _ ? :4 ~ (2 .κ3 _ _ :3 = ! .kk3 _ _ ? :4 ~ (2 .κ2 _ _ :3 = ! .kk2 _ _ ? :4 ~ (2 .κ1 _ _ :3 = ! .kk1 _ _ ? :4 ~ (2 .κ0 _ _ :3 = ! .kk0 _ _ ? :4 ~ (2 .κ6' _ :2 = ! .kj6 _ ? :3 ~ (2 .κ5' _ :2 = ! .kj5 _ ? :3 ~ (2 .κ4' _ :2 = ! .kj4 _ ? :3 ~ (2 |11"
  else if h == "I" then row (iT r)
  else if h == "T" then let g := r.flatMap grp; row (("'revert ." ++ " .".intercalate g ++ na " A" g.length ++ " h2") :: iT r)
  else if h == "E" then row (eT ("." ++ r.headD "") (r.drop 2)) else ""
def S : String := "'exact .g1 J2 ! 'exact .old_get .g1 :2 J2 ! 'exact .old_get .old_get .g1 :2 :2 J2 ! 'exact .old_get .old_get .old_get .g1 :2 :2 :2 J2 ! 'exact .old_get .old_get .old_get .old_get .g1 :2 :2 :2 :2 J2 ! 'exact .old_get .old_get .old_get .old_get .old_get .g1 :2 :2 :2 :2 :2 J2 ! .g2 ? :2 ~ ! 'exact .rfl J2 (2 .old_get .g2 ? :2 :2 ~ ! 'exact .rfl J2 (2 .old_get .old_get .g2 ? :2 :2 :2 ~ ! 'exact .rfl J2 (2 .old_get .old_get .old_get .g2 ? :2 :2 :2 :2 ~ ! 'exact .rfl J2 (2 .old_get .old_get .old_get .old_get .g2 ? :2 :2 :2 :2 :2 ~ ! 'exact .rfl J2 (2 'exact .sA J2 ! 'exact .sC J2 ! 'exact .sD J2 ! 'exact .sE J2 ! 'exact .sF J2 ! 'exact .sG J2 ! .sB ? :2 ~ ! 'exact .rfl J2 (2 .sH ? :2 ~ ! 'exact .rfl J2 (2 'fail A0 p2 |20"
def rw (s : Lean.Syntax) : Lean.Syntax := sq (s[2][1].getSepArgs.toList.map (fun r => rp [r[1], r] (if r[0].getNumArgs == 0 then ".rwB $0 '.. q1 :2 ? :3 ~ .rwI $0 '.. q1 :2 ? :3 ~ 'rewrite A0 N1 '[ $1 A1 '] s3 A0 r4 |3" else ".rwC $0 '.. q1 :2 ? :3 ~ .rwJ $0 '.. q1 :2 ? :3 ~ 'rewrite A0 N1 '[ $1 A1 '] s3 A0 r4 |3")) ++ [rp [] "'try 'rfl Q1 ! ;1 j2"])
end Zm
end Mine.Internal
open Mine.Internal
local macro_rules (kind := Lean.Elab.Tactic.Ext.ext) | s => if s[1].getNumArgs == 0 then pure (Zm.rp [] Zm.W) else Lean.Macro.throwUnsupported
local macro_rules (kind := Lean.Parser.Tactic.decide) | s => if s[1][0].getNumArgs == 0 then pure (Zm.rp [] "'exact .of_decide_eq_true .Eq.refl .true :2 :2 J2 'decide '- .kernel u2 t1 A1 N1 M2 |2") else Lean.Macro.throwUnsupported
local macro_rules (kind := Lean.Parser.Tactic.rwSeq) | s => if s[3].getNumArgs == 0 then pure (Zm.rw s) else Lean.Macro.throwUnsupported
local macro_rules | `(tactic| walk_at $s:str) => let r := Zm.mac s.getString; if r == "" then Lean.Macro.throwUnsupported else pure (Zm.rp [] r)
local macro_rules (kind := Lean.Parser.Tactic.simp) | s => if (s.reprint.getD "").trimAscii.toString == "simp" then pure (Zm.rp [] Zm.S) else Lean.Macro.throwUnsupported

namespace Mine
local macro_rules (kind := Lean.Parser.Command.declaration) | s => match s[1][0] with | .atom i v => if i.getPos?.isNone then Lean.Macro.throwUnsupported else let t := s.setArg 1 (s[1].setArg 0 (Internal.Zm.aT v)); pure (if (v == "def" || v == "abbrev") && s[0][4].getNumArgs == 0 then t.setArg 0 (s[0].setArg 4 (Internal.Zm.nd 0 [Internal.Zm.nd 47 [Internal.Zm.aT "noncomputable"]])) else t) | _ => Lean.Macro.throwUnsupported
namespace Internal
open _root_.List renaming append_assoc→aa,getElem?_eq_getElem→ae,getElem?_eq_some_iff→af,length_append→aj,range→am,getD_eq_getElem?_getD→ao,mem_map→ap,mem_cons→ar,append_nil→be,getElem?_append_right→bf,map_cons→bg,getElem?_append_left→bh,mem_range→bj,mem_singleton→bk,length_map→bl,mem_filter→bp,mem_append→bq,flatten_cons→br,map_append→bv,length_filter_le→bw,getElem?_eq_none_iff→bz,getElem?_map→b8,size_toArray→cb,take_of_length_le→cf,getElem_mem→cg,drop_eq_getElem_cons→ck,length_cons→cn,cons_append→cq,map_map→cw,flatMap_cons→cx,pairwise_cons→c5,lookup_cons→c7,filter_cons→c9,prefix_append→dj,drop_eq_nil_of_le→dt,mem_map_of_mem→du,not_mem_nil→dv,take_add_one→d7,nodup_cons→eg,singleton_append→eh,contains_iff_mem→ei,length_singleton→er,flatten_append→ew,flatMap_append→ey,flatten_nil→fb,mem_of_getElem?→fh,getElem?_set_ne→fi,nil_append→fp,take_append_drop→fq,getElem?_eq_none→ft,length_set→f0,length_drop→f8,all_eq_true→f9,length_pos_iff→gd,filterMap_cons→ge,map_nil→gi,length→gt,getElem?_set_self→gu,map_congr_left→gv,getElem_of_mem→gw,length_take→gy,filter_append→gz,getLast?_eq_some_getLast→g7,drop_zero→g8,take_length→iz,getLast?_eq_some_iff→i7,range_succ→i8,filter_congr→i9,any_eq_false→jc,take_zero→jg,replicate→jh,map_snd_zip→ji,map_fst_zip→jj,lookup_eq_none_iff→jk,eq_nil_of_length_eq_zero→jm,drop_of_length_le→jo,dropWhile_sublist→jp,append_eq_nil_iff→jq,length_nil→js,eq_nil_or_concat→ju,pairwise_map→jw,mem_of_mem_drop→j3,mem_flatten→j4,flatMap_nil→j5,any_eq_true→j6,getElem?_range→ka,sum_cons→ki,take→kr,length_eq_zero_iff→ku,getElem?_cons_succ→kx,nodup_append→k8,length_range→k9,set_append_right→lj,dropLast_eq_take→lm,count_cons_of_ne→lp,eq_nil_iff_forall_not_mem→lu,mem_of_mem_take→lz,count_cons_self→l0,take_succ_cons→l7,length_reverse→l8,nodup_nil→me,filterMap_map→mf,drop_take→mh,map_id→mj,prefix_refl→mq,mem_flatMap→mr,getElem?_cons_zero→ms,filter_eq_nil_iff→mz,sum_append→m7,concat_eq_append→nh,mem_of_getLast?→nk,length_dropLast→no,getLast?_append→nu,forall_mem_cons→nv,filter_eq_self→oj,any_cons→on,zip_cons_cons→oq,mem_filterMap→ot,lookup_append→ou,getElem?_drop→ow,findIdx?_cons→ox,filter_filter→oy,contains_cons→oz,set_set→o0,reverse_cons→o4,any_map→o5,takeWhile_append_dropWhile→o9,zipIdx_cons→pf,mem_reverse→pg,drop→ph,foldl_cons→p9,map→qd,exists_cons_of_ne_nil→qe,exists_mem_of_ne_nil→qm,getElem?_take_of_lt→qt,getLast?_cons_cons→q6,pairwise_reverse→ru,mem_append_right→rv,findIdx?_toArray→ry,filterMap_eq_map→rz,filterMap_append→r8,range'→sg,mem_append_left→sh,getElem?_of_mem→si,dropLast_concat→sj,reverse_append→sv,replicate_succ→sw,length_flatten→sx,filter_sublist→sy,zipIdx_append→s8,count_pos_iff→s9,count_eq_zero→ta
open _root_.PySem renaming wpAny_bind→ag,Params→ah,Value→ak,OsState→au,wpAny_pure→av,World→aw,Shared→az,wpAny_mono→bc,wpAny→bx,starEach→b0,mainGlobals→ca,wpAny_holding→cj,Builtin→cu,Expr→dh,wpAny_of_eq→dy,foldedSetIterable→dz,compareOp→d0,letOwnedTupleGo→d9,keywordEach→ej,builtinLookup_eq_fast→fg,wpAny_standAt→fk,typeLookup→g9,attributeBase→ij,Scope→im,Stmt→iy,DictEntry→i6,wpAny_field→jf,Around→jx,wpAny_ite_true→kd,NameKind→ly,wpAny_load→nw,Program→n0,Model→pd,codeAny→rj
open _root_.Nat renaming le_trans→aq,le_add_left→ax,le_refl→ay,succ_ne_self→ce,lt_succ_self→ch,lt_irrefl→ci,lt_of_le_of_lt→co,zero_le→cz,lt_of_lt_of_le→c6,le_of_lt→de,le_of_eq→dg,le_add_right→dw,ne_of_lt→ez,not_lt→fe,lt_add_of_pos_right→fw,ne_of_gt→gm,le_of_lt_succ→ik,le_succ→jn,min_eq_left→jt,lt_succ_of_lt→jy,min_eq_right→j8,lt_or_ge→j9,add_left_cancel→kg,not_lt_zero→ko,lt_of_le_of_ne→kq,lt_trans→lb,succ_ne_zero→lx,add_sub_cancel_left→my,le_total→m0,le_antisymm→ng,lt_succ_of_le→o8,min_le_right→pk,le_of_not_lt→po,add_mul→py,mul_add_div→qb,not_le→qk,cast→ql,add_assoc→qx,succ_pos→rq,sub_self→rt,sub_eq_zero_of_le→se,le_of_ble_eq_true→sf,add_le_add_right→su
open _root_.Option.some renaming inj→ba,injEq→cy
open _root_.Int renaming natCast_nonneg→bi,toNat_natCast→bo,fmod→cv,fdiv→d8,ofNat_le→jd,ofNat_lt→lh,one_mul→mn,add_zero→m8,toNat_of_nonneg→oo,fmod_eq_emod_of_nonneg→qn,mul_assoc→q7,mul_zero→r9,sub_nonneg_of_le→sz,mul_add→s7
open _root_.Bool renaming and_eq_true→bt,false_eq_true→bu,noConfusion→cr,eq_iff_iff→fa,or_eq_true→gj,false_ne_true→gp,not_eq_true'→la,false_or→mo,and_false→qh,and_self→qw,or_eq_false_iff→so,and_eq_true_iff→sr,not_eq_false'→te
open _root_.PySem.Heap renaming get?_push_size→b9,get?_push_of_some→cc,lt_size→dc,get?_update_self→fu,size_push→gh,get?_update_other→iu,SameBut→j7,ExtBut→pq,get?_none_of_le→sm
open _root_.Option renaming bind_some→ev,map_eq_some_iff→f4,isSome_iff_exists→gx,map_eq_none_iff→k7,elim→lr,any_eq_true→sc
open _root_.PySem.Value renaming none→fj,ref→fv,type→jz,str→o6
open _root_.PySem.Unicode renaming isLineBreak→fm,isSpace→ie
open _root_.PySem.W renaming keepIn→fy,SharedT→f7
open _root_.PySem.Challenge renaming rw_oy0429_01→f5
open _root_.PySem.Obj renaming isFreed_of_fields→gf,data_mapFields→jr,mapFields→kj,putName→oa,mapSeq→qj
open _root_.PySem.Heap.SameBut renaming update→gq
open _root_.PySem.PyData renaming canLayAll0→ig,depthAll→i5,depth→j0,strOk→k6,canLay0→md,keyHash→m9,eqv→oi
open _root_.PySem.Str renaming ofString→iw
open _root_.ForInStep renaming yield→i3
open _root_.PySem.W.SharedT renaming abs→i4
open _root_.Array renaming length_toList→je,toList_inj→lq,size_setIfInBounds→mm,replicate→pr,toList_push→tf
open _root_.PySem.NameKind renaming free→jl,cell→pz
open _root_.PySem.Txt renaming split→lv,lines→lw,slice→mu,item→mw,contains→o7,endswith→ro
open _root_.List.Pairwise renaming nil→l5,filter→ml
open _root_.Ne renaming symm→l6
open _root_.Classical renaming byContradiction→l9,not_not→oh,epsilon_spec→qc,not_forall→qp,epsilon→rl
open _root_.PySem.Builtin.Range renaming rangeSize→ma,small→qa
open _root_.Prod renaming snd→nj
open _root_.PyProof.Rows renaming callWith_method1→ny,callWith_method0→nz,callWith_type1→om
open _root_.PySem.Manifest renaming find?→pe,signature?→qy
open _root_.And renaming intro→pt
open _root_.PySem.F renaming slot_dict_delitem→pu
open _root_.PySem.Calls renaming call_function_entry→qg
open _root_.PySem.SeqAt renaming shaped→qi
open _root_.PySem.EntryCells renaming newEntry→qo
open _root_.PySem.StrLaws renaming glued_eq_join→qr
open _root_.PySem.Builtin.Str renaming glued→qu
open _root_.PySem.Builtin.Getset_descriptor renaming descrStoreThrough→q8,descrSet→q9,descrNameAndClass→rc,descrItself→rf,descrCheckInstance→rh
open _root_.PySem.Around renaming under_plainId→rn
open _root_.PySem.W.KF renaming slot_mset→sk
open _root_.Int.ofNat renaming inj→tc
section
set_option genInjectivity false
set_option genSizeOf false
variable {n:Nat}{α β:Type}
theorem aA (a:Nonempty α) (b:Nonempty β):Nonempty (α×β):=a.elim fun x=>b.elim fun y=>⟨(x,y)⟩
theorem neF1:Nonempty (α→Prop):=⟨fun _=>True⟩
theorem neF2:Nonempty (α→β→Prop):=⟨fun _ _=>True⟩
theorem neF3 {γ:Type}:Nonempty (α→β→γ→Prop):=⟨fun _ _ _=>True⟩
theorem neL:Nonempty (List α):=⟨[]⟩
theorem neO:Nonempty (Option α):=⟨none⟩
theorem neN:Nonempty Nat:=⟨0⟩
theorem neI:Nonempty Int:=⟨0⟩
theorem neB:Nonempty Bool:=⟨true⟩
theorem sA {a:α} {t:List α}:(a::t)[n - n]? =some a:=by rw [rt] at ⊢;rfl
theorem sB {h l:List α} (e:l.length=n):(h++l).length=h.length+n:=e▸aj
theorem sC {h:List α} {a b:α}:(h++[a]++[b]).length=h.length+2:=by rw [aa] at ⊢;exact sB rfl
theorem sD {l:List α} {a:α}:a∈l++[a]:=rv _ (.head _)
theorem sE {l J:List α} {a:α}:a∈l++[a]++J:=sh _ sD
theorem sF {h T:List α} {a:α}:(h++a::T)[h.length]? =some a:=by rw [bf (ay _)] at ⊢;exact sA
theorem sG {h:List α} {a b:α}:(h++[a]++[b])[h.length+1]? =some b:=by have e:=sF (h:=h++[a]) (T:=[]) (a:=b);rwa [sB (n:=1) rfl] at e
theorem sH {l:List α} (e:Nat.ble n l.length=true):n≤l.toArray.size:=sf e
theorem vS {a b c d:List α}:a++b++c++d=a++(b++(c++d)):=(aa ..).trans (aa ..)
theorem Pe {a b c d e:List α}:a++b++c++d++e=a++(b++(c++(d++e))):=vS.trans (aa ..)
theorem Ot {a b c d e f:List α}:a++b++c++d++e++f=a++(b++(c++(d++(e++f)))):=vS.trans vS
theorem Ru {a b c d e f g:List α}:a++b++c++d++e++f++g=a++(b++(c++(d++(e++(f++g))))):=Pe.trans vS
theorem Rb {a b c d e f g h:List α}:a++b++c++d++e++f++g++h=a++(b++(c++(d++(e++(f++(g++h)))))):=Ot.trans vS
section
variable {α1 α2 α3 α4 α5 α6 α7 α8 α9 α10 α11 α12 α13 α14 α15 α16:Type} (n1:Nonempty α1) (n2:Nonempty α2) (n3:Nonempty α3) (n4:Nonempty α4) (n5:Nonempty α5) (n6:Nonempty α6) (n7:Nonempty α7) (n8:Nonempty α8) (n9:Nonempty α9) (n10:Nonempty α10) (n11:Nonempty α11) (n12:Nonempty α12) (n13:Nonempty α13) (n14:Nonempty α14) (n15:Nonempty α15) (n16:Nonempty α16)
def w1 (S:α1→Prop):α1:=@rl α1 n1 fun a=> ¬S a
theorem all1 {S:α1→Prop} (h:S (w1 n1 S)) (a:α1):S a:=l9 fun hn=>(@qc α1 (fun a=> ¬S a) ⟨a,hn⟩) h
def u1 (P:α1→Prop):α1:=@rl α1 n1 P
theorem ex1 {P:α1→Prop} (h:Exists P):P (u1 n1 P):=qc h
def w2 (S:α1→α2→Prop):α1×α2:=w1 (aA n1 n2) fun p=>S p.1 p.2
theorem all2 {S:α1→α2→Prop} (h:S (w2 n1 n2 S).1 (w2 n1 n2 S).2) (a1:α1)(a2:α2):S a1 a2:=all1 (aA n1 n2) (S:=fun p=>S p.1 p.2) h (a1,a2)
def u2 (S:α1→α2→Prop):α1×α2:=u1 (aA n1 n2) fun p=>S p.1 p.2
theorem ex2 {S:α1→α2→Prop} (h: ∃a1 a2,S a1 a2):S (u2 n1 n2 S).1 (u2 n1 n2 S).2:=ex1 (aA n1 n2) (P:=fun p=>S p.1 p.2) (h.elim fun a1 h=>h.elim fun a2 h=>⟨(a1,a2),h⟩)
def w3 (S:α1→α2→α3→Prop):α1×α2×α3:=w1 (aA n1 (aA n2 n3)) fun p=>S p.1 p.2.1 p.2.2
theorem all3 {S:α1→α2→α3→Prop} (h:S (w3 n1 n2 n3 S).1 (w3 n1 n2 n3 S).2.1 (w3 n1 n2 n3 S).2.2) (a1:α1)(a2:α2)(a3:α3):S a1 a2 a3:=all1 (aA n1 (aA n2 n3)) (S:=fun p=>S p.1 p.2.1 p.2.2) h (a1,a2,a3)
def w4 (S:α1→α2→α3→α4→Prop):α1×α2×α3×α4:=w1 (aA n1 (aA n2 (aA n3 n4))) fun p=>S p.1 p.2.1 p.2.2.1 p.2.2.2
theorem all4 {S:α1→α2→α3→α4→Prop} (h:S (w4 n1 n2 n3 n4 S).1 (w4 n1 n2 n3 n4 S).2.1 (w4 n1 n2 n3 n4 S).2.2.1 (w4 n1 n2 n3 n4 S).2.2.2) (a1:α1)(a2:α2)(a3:α3)(a4:α4):S a1 a2 a3 a4:=all1 (aA n1 (aA n2 (aA n3 n4))) (S:=fun p=>S p.1 p.2.1 p.2.2.1 p.2.2.2) h (a1,a2,a3,a4)
def u4 (S:α1→α2→α3→α4→Prop):α1×α2×α3×α4:=u1 (aA n1 (aA n2 (aA n3 n4))) fun p=>S p.1 p.2.1 p.2.2.1 p.2.2.2
theorem ex4 {S:α1→α2→α3→α4→Prop} (h: ∃a1 a2 a3 a4,S a1 a2 a3 a4):S (u4 n1 n2 n3 n4 S).1 (u4 n1 n2 n3 n4 S).2.1 (u4 n1 n2 n3 n4 S).2.2.1 (u4 n1 n2 n3 n4 S).2.2.2:=ex1 (aA n1 (aA n2 (aA n3 n4))) (P:=fun p=>S p.1 p.2.1 p.2.2.1 p.2.2.2) (h.elim fun a1 h=>h.elim fun a2 h=>h.elim fun a3 h=>h.elim fun a4 h=>⟨(a1,a2,a3,a4),h⟩)
def w5 (S:α1→α2→α3→α4→α5→Prop):α1×α2×α3×α4×α5:=w1 (aA n1 (aA n2 (aA n3 (aA n4 n5)))) fun p=>S p.1 p.2.1 p.2.2.1 p.2.2.2.1 p.2.2.2.2
theorem all5 {S:α1→α2→α3→α4→α5→Prop} (h:S (w5 n1 n2 n3 n4 n5 S).1 (w5 n1 n2 n3 n4 n5 S).2.1 (w5 n1 n2 n3 n4 n5 S).2.2.1 (w5 n1 n2 n3 n4 n5 S).2.2.2.1 (w5 n1 n2 n3 n4 n5 S).2.2.2.2) (a1:α1)(a2:α2)(a3:α3)(a4:α4)(a5:α5):S a1 a2 a3 a4 a5:=all1 (aA n1 (aA n2 (aA n3 (aA n4 n5)))) (S:=fun p=>S p.1 p.2.1 p.2.2.1 p.2.2.2.1 p.2.2.2.2) h (a1,a2,a3,a4,a5)
def u5 (S:α1→α2→α3→α4→α5→Prop):α1×α2×α3×α4×α5:=u1 (aA n1 (aA n2 (aA n3 (aA n4 n5)))) fun p=>S p.1 p.2.1 p.2.2.1 p.2.2.2.1 p.2.2.2.2
theorem ex5 {S:α1→α2→α3→α4→α5→Prop} (h: ∃a1 a2 a3 a4 a5,S a1 a2 a3 a4 a5):S (u5 n1 n2 n3 n4 n5 S).1 (u5 n1 n2 n3 n4 n5 S).2.1 (u5 n1 n2 n3 n4 n5 S).2.2.1 (u5 n1 n2 n3 n4 n5 S).2.2.2.1 (u5 n1 n2 n3 n4 n5 S).2.2.2.2:=ex1 (aA n1 (aA n2 (aA n3 (aA n4 n5)))) (P:=fun p=>S p.1 p.2.1 p.2.2.1 p.2.2.2.1 p.2.2.2.2) (h.elim fun a1 h=>h.elim fun a2 h=>h.elim fun a3 h=>h.elim fun a4 h=>h.elim fun a5 h=>⟨(a1,a2,a3,a4,a5),h⟩)
def w6 (S:α1→α2→α3→α4→α5→α6→Prop):α1×α2×α3×α4×α5×α6:=w1 (aA n1 (aA n2 (aA n3 (aA n4 (aA n5 n6))))) fun p=>S p.1 p.2.1 p.2.2.1 p.2.2.2.1 p.2.2.2.2.1 p.2.2.2.2.2
theorem all6 {S:α1→α2→α3→α4→α5→α6→Prop} (h:S (w6 n1 n2 n3 n4 n5 n6 S).1 (w6 n1 n2 n3 n4 n5 n6 S).2.1 (w6 n1 n2 n3 n4 n5 n6 S).2.2.1 (w6 n1 n2 n3 n4 n5 n6 S).2.2.2.1 (w6 n1 n2 n3 n4 n5 n6 S).2.2.2.2.1 (w6 n1 n2 n3 n4 n5 n6 S).2.2.2.2.2) (a1:α1)(a2:α2)(a3:α3)(a4:α4)(a5:α5)(a6:α6):S a1 a2 a3 a4 a5 a6:=all1 (aA n1 (aA n2 (aA n3 (aA n4 (aA n5 n6))))) (S:=fun p=>S p.1 p.2.1 p.2.2.1 p.2.2.2.1 p.2.2.2.2.1 p.2.2.2.2.2) h (a1,a2,a3,a4,a5,a6)
def w7 (S:α1→α2→α3→α4→α5→α6→α7→Prop):α1×α2×α3×α4×α5×α6×α7:=w1 (aA n1 (aA n2 (aA n3 (aA n4 (aA n5 (aA n6 n7)))))) fun p=>S p.1 p.2.1 p.2.2.1 p.2.2.2.1 p.2.2.2.2.1 p.2.2.2.2.2.1 p.2.2.2.2.2.2
theorem all7 {S:α1→α2→α3→α4→α5→α6→α7→Prop} (h:S (w7 n1 n2 n3 n4 n5 n6 n7 S).1 (w7 n1 n2 n3 n4 n5 n6 n7 S).2.1 (w7 n1 n2 n3 n4 n5 n6 n7 S).2.2.1 (w7 n1 n2 n3 n4 n5 n6 n7 S).2.2.2.1 (w7 n1 n2 n3 n4 n5 n6 n7 S).2.2.2.2.1 (w7 n1 n2 n3 n4 n5 n6 n7 S).2.2.2.2.2.1 (w7 n1 n2 n3 n4 n5 n6 n7 S).2.2.2.2.2.2) (a1:α1)(a2:α2)(a3:α3)(a4:α4)(a5:α5)(a6:α6)(a7:α7):S a1 a2 a3 a4 a5 a6 a7:=all1 (aA n1 (aA n2 (aA n3 (aA n4 (aA n5 (aA n6 n7)))))) (S:=fun p=>S p.1 p.2.1 p.2.2.1 p.2.2.2.1 p.2.2.2.2.1 p.2.2.2.2.2.1 p.2.2.2.2.2.2) h (a1,a2,a3,a4,a5,a6,a7)
def w8 (S:α1→α2→α3→α4→α5→α6→α7→α8→Prop):α1×α2×α3×α4×α5×α6×α7×α8:=w1 (aA n1 (aA n2 (aA n3 (aA n4 (aA n5 (aA n6 (aA n7 n8))))))) fun p=>S p.1 p.2.1 p.2.2.1 p.2.2.2.1 p.2.2.2.2.1 p.2.2.2.2.2.1 p.2.2.2.2.2.2.1 p.2.2.2.2.2.2.2
theorem all8 {S:α1→α2→α3→α4→α5→α6→α7→α8→Prop} (h:S (w8 n1 n2 n3 n4 n5 n6 n7 n8 S).1 (w8 n1 n2 n3 n4 n5 n6 n7 n8 S).2.1 (w8 n1 n2 n3 n4 n5 n6 n7 n8 S).2.2.1 (w8 n1 n2 n3 n4 n5 n6 n7 n8 S).2.2.2.1 (w8 n1 n2 n3 n4 n5 n6 n7 n8 S).2.2.2.2.1 (w8 n1 n2 n3 n4 n5 n6 n7 n8 S).2.2.2.2.2.1 (w8 n1 n2 n3 n4 n5 n6 n7 n8 S).2.2.2.2.2.2.1 (w8 n1 n2 n3 n4 n5 n6 n7 n8 S).2.2.2.2.2.2.2) (a1:α1)(a2:α2)(a3:α3)(a4:α4)(a5:α5)(a6:α6)(a7:α7)(a8:α8):S a1 a2 a3 a4 a5 a6 a7 a8:=all1 (aA n1 (aA n2 (aA n3 (aA n4 (aA n5 (aA n6 (aA n7 n8))))))) (S:=fun p=>S p.1 p.2.1 p.2.2.1 p.2.2.2.1 p.2.2.2.2.1 p.2.2.2.2.2.1 p.2.2.2.2.2.2.1 p.2.2.2.2.2.2.2) h (a1,a2,a3,a4,a5,a6,a7,a8)
def u8 (S:α1→α2→α3→α4→α5→α6→α7→α8→Prop):α1×α2×α3×α4×α5×α6×α7×α8:=u1 (aA n1 (aA n2 (aA n3 (aA n4 (aA n5 (aA n6 (aA n7 n8))))))) fun p=>S p.1 p.2.1 p.2.2.1 p.2.2.2.1 p.2.2.2.2.1 p.2.2.2.2.2.1 p.2.2.2.2.2.2.1 p.2.2.2.2.2.2.2
theorem ex8 {S:α1→α2→α3→α4→α5→α6→α7→α8→Prop} (h: ∃a1 a2 a3 a4 a5 a6 a7 a8,S a1 a2 a3 a4 a5 a6 a7 a8):S (u8 n1 n2 n3 n4 n5 n6 n7 n8 S).1 (u8 n1 n2 n3 n4 n5 n6 n7 n8 S).2.1 (u8 n1 n2 n3 n4 n5 n6 n7 n8 S).2.2.1 (u8 n1 n2 n3 n4 n5 n6 n7 n8 S).2.2.2.1 (u8 n1 n2 n3 n4 n5 n6 n7 n8 S).2.2.2.2.1 (u8 n1 n2 n3 n4 n5 n6 n7 n8 S).2.2.2.2.2.1 (u8 n1 n2 n3 n4 n5 n6 n7 n8 S).2.2.2.2.2.2.1 (u8 n1 n2 n3 n4 n5 n6 n7 n8 S).2.2.2.2.2.2.2:=ex1 (aA n1 (aA n2 (aA n3 (aA n4 (aA n5 (aA n6 (aA n7 n8))))))) (P:=fun p=>S p.1 p.2.1 p.2.2.1 p.2.2.2.1 p.2.2.2.2.1 p.2.2.2.2.2.1 p.2.2.2.2.2.2.1 p.2.2.2.2.2.2.2) (h.elim fun a1 h=>h.elim fun a2 h=>h.elim fun a3 h=>h.elim fun a4 h=>h.elim fun a5 h=>h.elim fun a6 h=>h.elim fun a7 h=>h.elim fun a8 h=>⟨(a1,a2,a3,a4,a5,a6,a7,a8),h⟩)
def w9 (S:α1→α2→α3→α4→α5→α6→α7→α8→α9→Prop):α1×α2×α3×α4×α5×α6×α7×α8×α9:=w1 (aA n1 (aA n2 (aA n3 (aA n4 (aA n5 (aA n6 (aA n7 (aA n8 n9)))))))) fun p=>S p.1 p.2.1 p.2.2.1 p.2.2.2.1 p.2.2.2.2.1 p.2.2.2.2.2.1 p.2.2.2.2.2.2.1 p.2.2.2.2.2.2.2.1 p.2.2.2.2.2.2.2.2
theorem all9 {S:α1→α2→α3→α4→α5→α6→α7→α8→α9→Prop} (h:S (w9 n1 n2 n3 n4 n5 n6 n7 n8 n9 S).1 (w9 n1 n2 n3 n4 n5 n6 n7 n8 n9 S).2.1 (w9 n1 n2 n3 n4 n5 n6 n7 n8 n9 S).2.2.1 (w9 n1 n2 n3 n4 n5 n6 n7 n8 n9 S).2.2.2.1 (w9 n1 n2 n3 n4 n5 n6 n7 n8 n9 S).2.2.2.2.1 (w9 n1 n2 n3 n4 n5 n6 n7 n8 n9 S).2.2.2.2.2.1 (w9 n1 n2 n3 n4 n5 n6 n7 n8 n9 S).2.2.2.2.2.2.1 (w9 n1 n2 n3 n4 n5 n6 n7 n8 n9 S).2.2.2.2.2.2.2.1 (w9 n1 n2 n3 n4 n5 n6 n7 n8 n9 S).2.2.2.2.2.2.2.2) (a1:α1)(a2:α2)(a3:α3)(a4:α4)(a5:α5)(a6:α6)(a7:α7)(a8:α8)(a9:α9):S a1 a2 a3 a4 a5 a6 a7 a8 a9:=all1 (aA n1 (aA n2 (aA n3 (aA n4 (aA n5 (aA n6 (aA n7 (aA n8 n9)))))))) (S:=fun p=>S p.1 p.2.1 p.2.2.1 p.2.2.2.1 p.2.2.2.2.1 p.2.2.2.2.2.1 p.2.2.2.2.2.2.1 p.2.2.2.2.2.2.2.1 p.2.2.2.2.2.2.2.2) h (a1,a2,a3,a4,a5,a6,a7,a8,a9)
def w10 (S:α1→α2→α3→α4→α5→α6→α7→α8→α9→α10→Prop):α1×α2×α3×α4×α5×α6×α7×α8×α9×α10:=w1 (aA n1 (aA n2 (aA n3 (aA n4 (aA n5 (aA n6 (aA n7 (aA n8 (aA n9 n10))))))))) fun p=>S p.1 p.2.1 p.2.2.1 p.2.2.2.1 p.2.2.2.2.1 p.2.2.2.2.2.1 p.2.2.2.2.2.2.1 p.2.2.2.2.2.2.2.1 p.2.2.2.2.2.2.2.2.1 p.2.2.2.2.2.2.2.2.2
theorem all10 {S:α1→α2→α3→α4→α5→α6→α7→α8→α9→α10→Prop} (h:S (w10 n1 n2 n3 n4 n5 n6 n7 n8 n9 n10 S).1 (w10 n1 n2 n3 n4 n5 n6 n7 n8 n9 n10 S).2.1 (w10 n1 n2 n3 n4 n5 n6 n7 n8 n9 n10 S).2.2.1 (w10 n1 n2 n3 n4 n5 n6 n7 n8 n9 n10 S).2.2.2.1 (w10 n1 n2 n3 n4 n5 n6 n7 n8 n9 n10 S).2.2.2.2.1 (w10 n1 n2 n3 n4 n5 n6 n7 n8 n9 n10 S).2.2.2.2.2.1 (w10 n1 n2 n3 n4 n5 n6 n7 n8 n9 n10 S).2.2.2.2.2.2.1 (w10 n1 n2 n3 n4 n5 n6 n7 n8 n9 n10 S).2.2.2.2.2.2.2.1 (w10 n1 n2 n3 n4 n5 n6 n7 n8 n9 n10 S).2.2.2.2.2.2.2.2.1 (w10 n1 n2 n3 n4 n5 n6 n7 n8 n9 n10 S).2.2.2.2.2.2.2.2.2) (a1:α1)(a2:α2)(a3:α3)(a4:α4)(a5:α5)(a6:α6)(a7:α7)(a8:α8)(a9:α9)(a10:α10):S a1 a2 a3 a4 a5 a6 a7 a8 a9 a10:=all1 (aA n1 (aA n2 (aA n3 (aA n4 (aA n5 (aA n6 (aA n7 (aA n8 (aA n9 n10))))))))) (S:=fun p=>S p.1 p.2.1 p.2.2.1 p.2.2.2.1 p.2.2.2.2.1 p.2.2.2.2.2.1 p.2.2.2.2.2.2.1 p.2.2.2.2.2.2.2.1 p.2.2.2.2.2.2.2.2.1 p.2.2.2.2.2.2.2.2.2) h (a1,a2,a3,a4,a5,a6,a7,a8,a9,a10)
def w11 (S:α1→α2→α3→α4→α5→α6→α7→α8→α9→α10→α11→Prop):α1×α2×α3×α4×α5×α6×α7×α8×α9×α10×α11:=w1 (aA n1 (aA n2 (aA n3 (aA n4 (aA n5 (aA n6 (aA n7 (aA n8 (aA n9 (aA n10 n11)))))))))) fun p=>S p.1 p.2.1 p.2.2.1 p.2.2.2.1 p.2.2.2.2.1 p.2.2.2.2.2.1 p.2.2.2.2.2.2.1 p.2.2.2.2.2.2.2.1 p.2.2.2.2.2.2.2.2.1 p.2.2.2.2.2.2.2.2.2.1 p.2.2.2.2.2.2.2.2.2.2
theorem all11 {S:α1→α2→α3→α4→α5→α6→α7→α8→α9→α10→α11→Prop} (h:S (w11 n1 n2 n3 n4 n5 n6 n7 n8 n9 n10 n11 S).1 (w11 n1 n2 n3 n4 n5 n6 n7 n8 n9 n10 n11 S).2.1 (w11 n1 n2 n3 n4 n5 n6 n7 n8 n9 n10 n11 S).2.2.1 (w11 n1 n2 n3 n4 n5 n6 n7 n8 n9 n10 n11 S).2.2.2.1 (w11 n1 n2 n3 n4 n5 n6 n7 n8 n9 n10 n11 S).2.2.2.2.1 (w11 n1 n2 n3 n4 n5 n6 n7 n8 n9 n10 n11 S).2.2.2.2.2.1 (w11 n1 n2 n3 n4 n5 n6 n7 n8 n9 n10 n11 S).2.2.2.2.2.2.1 (w11 n1 n2 n3 n4 n5 n6 n7 n8 n9 n10 n11 S).2.2.2.2.2.2.2.1 (w11 n1 n2 n3 n4 n5 n6 n7 n8 n9 n10 n11 S).2.2.2.2.2.2.2.2.1 (w11 n1 n2 n3 n4 n5 n6 n7 n8 n9 n10 n11 S).2.2.2.2.2.2.2.2.2.1 (w11 n1 n2 n3 n4 n5 n6 n7 n8 n9 n10 n11 S).2.2.2.2.2.2.2.2.2.2) (a1:α1)(a2:α2)(a3:α3)(a4:α4)(a5:α5)(a6:α6)(a7:α7)(a8:α8)(a9:α9)(a10:α10)(a11:α11):S a1 a2 a3 a4 a5 a6 a7 a8 a9 a10 a11:=all1 (aA n1 (aA n2 (aA n3 (aA n4 (aA n5 (aA n6 (aA n7 (aA n8 (aA n9 (aA n10 n11)))))))))) (S:=fun p=>S p.1 p.2.1 p.2.2.1 p.2.2.2.1 p.2.2.2.2.1 p.2.2.2.2.2.1 p.2.2.2.2.2.2.1 p.2.2.2.2.2.2.2.1 p.2.2.2.2.2.2.2.2.1 p.2.2.2.2.2.2.2.2.2.1 p.2.2.2.2.2.2.2.2.2.2) h (a1,a2,a3,a4,a5,a6,a7,a8,a9,a10,a11)
def w12 (S:α1→α2→α3→α4→α5→α6→α7→α8→α9→α10→α11→α12→Prop):α1×α2×α3×α4×α5×α6×α7×α8×α9×α10×α11×α12:=w1 (aA n1 (aA n2 (aA n3 (aA n4 (aA n5 (aA n6 (aA n7 (aA n8 (aA n9 (aA n10 (aA n11 n12))))))))))) fun p=>S p.1 p.2.1 p.2.2.1 p.2.2.2.1 p.2.2.2.2.1 p.2.2.2.2.2.1 p.2.2.2.2.2.2.1 p.2.2.2.2.2.2.2.1 p.2.2.2.2.2.2.2.2.1 p.2.2.2.2.2.2.2.2.2.1 p.2.2.2.2.2.2.2.2.2.2.1 p.2.2.2.2.2.2.2.2.2.2.2
theorem all12 {S:α1→α2→α3→α4→α5→α6→α7→α8→α9→α10→α11→α12→Prop} (h:S (w12 n1 n2 n3 n4 n5 n6 n7 n8 n9 n10 n11 n12 S).1 (w12 n1 n2 n3 n4 n5 n6 n7 n8 n9 n10 n11 n12 S).2.1 (w12 n1 n2 n3 n4 n5 n6 n7 n8 n9 n10 n11 n12 S).2.2.1 (w12 n1 n2 n3 n4 n5 n6 n7 n8 n9 n10 n11 n12 S).2.2.2.1 (w12 n1 n2 n3 n4 n5 n6 n7 n8 n9 n10 n11 n12 S).2.2.2.2.1 (w12 n1 n2 n3 n4 n5 n6 n7 n8 n9 n10 n11 n12 S).2.2.2.2.2.1 (w12 n1 n2 n3 n4 n5 n6 n7 n8 n9 n10 n11 n12 S).2.2.2.2.2.2.1 (w12 n1 n2 n3 n4 n5 n6 n7 n8 n9 n10 n11 n12 S).2.2.2.2.2.2.2.1 (w12 n1 n2 n3 n4 n5 n6 n7 n8 n9 n10 n11 n12 S).2.2.2.2.2.2.2.2.1 (w12 n1 n2 n3 n4 n5 n6 n7 n8 n9 n10 n11 n12 S).2.2.2.2.2.2.2.2.2.1 (w12 n1 n2 n3 n4 n5 n6 n7 n8 n9 n10 n11 n12 S).2.2.2.2.2.2.2.2.2.2.1 (w12 n1 n2 n3 n4 n5 n6 n7 n8 n9 n10 n11 n12 S).2.2.2.2.2.2.2.2.2.2.2) (a1:α1)(a2:α2)(a3:α3)(a4:α4)(a5:α5)(a6:α6)(a7:α7)(a8:α8)(a9:α9)(a10:α10)(a11:α11)(a12:α12):S a1 a2 a3 a4 a5 a6 a7 a8 a9 a10 a11 a12:=all1 (aA n1 (aA n2 (aA n3 (aA n4 (aA n5 (aA n6 (aA n7 (aA n8 (aA n9 (aA n10 (aA n11 n12))))))))))) (S:=fun p=>S p.1 p.2.1 p.2.2.1 p.2.2.2.1 p.2.2.2.2.1 p.2.2.2.2.2.1 p.2.2.2.2.2.2.1 p.2.2.2.2.2.2.2.1 p.2.2.2.2.2.2.2.2.1 p.2.2.2.2.2.2.2.2.2.1 p.2.2.2.2.2.2.2.2.2.2.1 p.2.2.2.2.2.2.2.2.2.2.2) h (a1,a2,a3,a4,a5,a6,a7,a8,a9,a10,a11,a12)
def w13 (S:α1→α2→α3→α4→α5→α6→α7→α8→α9→α10→α11→α12→α13→Prop):α1×α2×α3×α4×α5×α6×α7×α8×α9×α10×α11×α12×α13:=w1 (aA n1 (aA n2 (aA n3 (aA n4 (aA n5 (aA n6 (aA n7 (aA n8 (aA n9 (aA n10 (aA n11 (aA n12 n13)))))))))))) fun p=>S p.1 p.2.1 p.2.2.1 p.2.2.2.1 p.2.2.2.2.1 p.2.2.2.2.2.1 p.2.2.2.2.2.2.1 p.2.2.2.2.2.2.2.1 p.2.2.2.2.2.2.2.2.1 p.2.2.2.2.2.2.2.2.2.1 p.2.2.2.2.2.2.2.2.2.2.1 p.2.2.2.2.2.2.2.2.2.2.2.1 p.2.2.2.2.2.2.2.2.2.2.2.2
theorem all13 {S:α1→α2→α3→α4→α5→α6→α7→α8→α9→α10→α11→α12→α13→Prop} (h:S (w13 n1 n2 n3 n4 n5 n6 n7 n8 n9 n10 n11 n12 n13 S).1 (w13 n1 n2 n3 n4 n5 n6 n7 n8 n9 n10 n11 n12 n13 S).2.1 (w13 n1 n2 n3 n4 n5 n6 n7 n8 n9 n10 n11 n12 n13 S).2.2.1 (w13 n1 n2 n3 n4 n5 n6 n7 n8 n9 n10 n11 n12 n13 S).2.2.2.1 (w13 n1 n2 n3 n4 n5 n6 n7 n8 n9 n10 n11 n12 n13 S).2.2.2.2.1 (w13 n1 n2 n3 n4 n5 n6 n7 n8 n9 n10 n11 n12 n13 S).2.2.2.2.2.1 (w13 n1 n2 n3 n4 n5 n6 n7 n8 n9 n10 n11 n12 n13 S).2.2.2.2.2.2.1 (w13 n1 n2 n3 n4 n5 n6 n7 n8 n9 n10 n11 n12 n13 S).2.2.2.2.2.2.2.1 (w13 n1 n2 n3 n4 n5 n6 n7 n8 n9 n10 n11 n12 n13 S).2.2.2.2.2.2.2.2.1 (w13 n1 n2 n3 n4 n5 n6 n7 n8 n9 n10 n11 n12 n13 S).2.2.2.2.2.2.2.2.2.1 (w13 n1 n2 n3 n4 n5 n6 n7 n8 n9 n10 n11 n12 n13 S).2.2.2.2.2.2.2.2.2.2.1 (w13 n1 n2 n3 n4 n5 n6 n7 n8 n9 n10 n11 n12 n13 S).2.2.2.2.2.2.2.2.2.2.2.1 (w13 n1 n2 n3 n4 n5 n6 n7 n8 n9 n10 n11 n12 n13 S).2.2.2.2.2.2.2.2.2.2.2.2) (a1:α1)(a2:α2)(a3:α3)(a4:α4)(a5:α5)(a6:α6)(a7:α7)(a8:α8)(a9:α9)(a10:α10)(a11:α11)(a12:α12)(a13:α13):S a1 a2 a3 a4 a5 a6 a7 a8 a9 a10 a11 a12 a13:=all1 (aA n1 (aA n2 (aA n3 (aA n4 (aA n5 (aA n6 (aA n7 (aA n8 (aA n9 (aA n10 (aA n11 (aA n12 n13)))))))))))) (S:=fun p=>S p.1 p.2.1 p.2.2.1 p.2.2.2.1 p.2.2.2.2.1 p.2.2.2.2.2.1 p.2.2.2.2.2.2.1 p.2.2.2.2.2.2.2.1 p.2.2.2.2.2.2.2.2.1 p.2.2.2.2.2.2.2.2.2.1 p.2.2.2.2.2.2.2.2.2.2.1 p.2.2.2.2.2.2.2.2.2.2.2.1 p.2.2.2.2.2.2.2.2.2.2.2.2) h (a1,a2,a3,a4,a5,a6,a7,a8,a9,a10,a11,a12,a13)
def w14 (S:α1→α2→α3→α4→α5→α6→α7→α8→α9→α10→α11→α12→α13→α14→Prop):α1×α2×α3×α4×α5×α6×α7×α8×α9×α10×α11×α12×α13×α14:=w1 (aA n1 (aA n2 (aA n3 (aA n4 (aA n5 (aA n6 (aA n7 (aA n8 (aA n9 (aA n10 (aA n11 (aA n12 (aA n13 n14))))))))))))) fun p=>S p.1 p.2.1 p.2.2.1 p.2.2.2.1 p.2.2.2.2.1 p.2.2.2.2.2.1 p.2.2.2.2.2.2.1 p.2.2.2.2.2.2.2.1 p.2.2.2.2.2.2.2.2.1 p.2.2.2.2.2.2.2.2.2.1 p.2.2.2.2.2.2.2.2.2.2.1 p.2.2.2.2.2.2.2.2.2.2.2.1 p.2.2.2.2.2.2.2.2.2.2.2.2.1 p.2.2.2.2.2.2.2.2.2.2.2.2.2
theorem all14 {S:α1→α2→α3→α4→α5→α6→α7→α8→α9→α10→α11→α12→α13→α14→Prop} (h:S (w14 n1 n2 n3 n4 n5 n6 n7 n8 n9 n10 n11 n12 n13 n14 S).1 (w14 n1 n2 n3 n4 n5 n6 n7 n8 n9 n10 n11 n12 n13 n14 S).2.1 (w14 n1 n2 n3 n4 n5 n6 n7 n8 n9 n10 n11 n12 n13 n14 S).2.2.1 (w14 n1 n2 n3 n4 n5 n6 n7 n8 n9 n10 n11 n12 n13 n14 S).2.2.2.1 (w14 n1 n2 n3 n4 n5 n6 n7 n8 n9 n10 n11 n12 n13 n14 S).2.2.2.2.1 (w14 n1 n2 n3 n4 n5 n6 n7 n8 n9 n10 n11 n12 n13 n14 S).2.2.2.2.2.1 (w14 n1 n2 n3 n4 n5 n6 n7 n8 n9 n10 n11 n12 n13 n14 S).2.2.2.2.2.2.1 (w14 n1 n2 n3 n4 n5 n6 n7 n8 n9 n10 n11 n12 n13 n14 S).2.2.2.2.2.2.2.1 (w14 n1 n2 n3 n4 n5 n6 n7 n8 n9 n10 n11 n12 n13 n14 S).2.2.2.2.2.2.2.2.1 (w14 n1 n2 n3 n4 n5 n6 n7 n8 n9 n10 n11 n12 n13 n14 S).2.2.2.2.2.2.2.2.2.1 (w14 n1 n2 n3 n4 n5 n6 n7 n8 n9 n10 n11 n12 n13 n14 S).2.2.2.2.2.2.2.2.2.2.1 (w14 n1 n2 n3 n4 n5 n6 n7 n8 n9 n10 n11 n12 n13 n14 S).2.2.2.2.2.2.2.2.2.2.2.1 (w14 n1 n2 n3 n4 n5 n6 n7 n8 n9 n10 n11 n12 n13 n14 S).2.2.2.2.2.2.2.2.2.2.2.2.1 (w14 n1 n2 n3 n4 n5 n6 n7 n8 n9 n10 n11 n12 n13 n14 S).2.2.2.2.2.2.2.2.2.2.2.2.2) (a1:α1)(a2:α2)(a3:α3)(a4:α4)(a5:α5)(a6:α6)(a7:α7)(a8:α8)(a9:α9)(a10:α10)(a11:α11)(a12:α12)(a13:α13)(a14:α14):S a1 a2 a3 a4 a5 a6 a7 a8 a9 a10 a11 a12 a13 a14:=all1 (aA n1 (aA n2 (aA n3 (aA n4 (aA n5 (aA n6 (aA n7 (aA n8 (aA n9 (aA n10 (aA n11 (aA n12 (aA n13 n14))))))))))))) (S:=fun p=>S p.1 p.2.1 p.2.2.1 p.2.2.2.1 p.2.2.2.2.1 p.2.2.2.2.2.1 p.2.2.2.2.2.2.1 p.2.2.2.2.2.2.2.1 p.2.2.2.2.2.2.2.2.1 p.2.2.2.2.2.2.2.2.2.1 p.2.2.2.2.2.2.2.2.2.2.1 p.2.2.2.2.2.2.2.2.2.2.2.1 p.2.2.2.2.2.2.2.2.2.2.2.2.1 p.2.2.2.2.2.2.2.2.2.2.2.2.2) h (a1,a2,a3,a4,a5,a6,a7,a8,a9,a10,a11,a12,a13,a14)
def w16 (S:α1→α2→α3→α4→α5→α6→α7→α8→α9→α10→α11→α12→α13→α14→α15→α16→Prop):α1×α2×α3×α4×α5×α6×α7×α8×α9×α10×α11×α12×α13×α14×α15×α16:=w1 (aA n1 (aA n2 (aA n3 (aA n4 (aA n5 (aA n6 (aA n7 (aA n8 (aA n9 (aA n10 (aA n11 (aA n12 (aA n13 (aA n14 (aA n15 n16))))))))))))))) fun p=>S p.1 p.2.1 p.2.2.1 p.2.2.2.1 p.2.2.2.2.1 p.2.2.2.2.2.1 p.2.2.2.2.2.2.1 p.2.2.2.2.2.2.2.1 p.2.2.2.2.2.2.2.2.1 p.2.2.2.2.2.2.2.2.2.1 p.2.2.2.2.2.2.2.2.2.2.1 p.2.2.2.2.2.2.2.2.2.2.2.1 p.2.2.2.2.2.2.2.2.2.2.2.2.1 p.2.2.2.2.2.2.2.2.2.2.2.2.2.1 p.2.2.2.2.2.2.2.2.2.2.2.2.2.2.1 p.2.2.2.2.2.2.2.2.2.2.2.2.2.2.2
theorem all16 {S:α1→α2→α3→α4→α5→α6→α7→α8→α9→α10→α11→α12→α13→α14→α15→α16→Prop} (h:S (w16 n1 n2 n3 n4 n5 n6 n7 n8 n9 n10 n11 n12 n13 n14 n15 n16 S).1 (w16 n1 n2 n3 n4 n5 n6 n7 n8 n9 n10 n11 n12 n13 n14 n15 n16 S).2.1 (w16 n1 n2 n3 n4 n5 n6 n7 n8 n9 n10 n11 n12 n13 n14 n15 n16 S).2.2.1 (w16 n1 n2 n3 n4 n5 n6 n7 n8 n9 n10 n11 n12 n13 n14 n15 n16 S).2.2.2.1 (w16 n1 n2 n3 n4 n5 n6 n7 n8 n9 n10 n11 n12 n13 n14 n15 n16 S).2.2.2.2.1 (w16 n1 n2 n3 n4 n5 n6 n7 n8 n9 n10 n11 n12 n13 n14 n15 n16 S).2.2.2.2.2.1 (w16 n1 n2 n3 n4 n5 n6 n7 n8 n9 n10 n11 n12 n13 n14 n15 n16 S).2.2.2.2.2.2.1 (w16 n1 n2 n3 n4 n5 n6 n7 n8 n9 n10 n11 n12 n13 n14 n15 n16 S).2.2.2.2.2.2.2.1 (w16 n1 n2 n3 n4 n5 n6 n7 n8 n9 n10 n11 n12 n13 n14 n15 n16 S).2.2.2.2.2.2.2.2.1 (w16 n1 n2 n3 n4 n5 n6 n7 n8 n9 n10 n11 n12 n13 n14 n15 n16 S).2.2.2.2.2.2.2.2.2.1 (w16 n1 n2 n3 n4 n5 n6 n7 n8 n9 n10 n11 n12 n13 n14 n15 n16 S).2.2.2.2.2.2.2.2.2.2.1 (w16 n1 n2 n3 n4 n5 n6 n7 n8 n9 n10 n11 n12 n13 n14 n15 n16 S).2.2.2.2.2.2.2.2.2.2.2.1 (w16 n1 n2 n3 n4 n5 n6 n7 n8 n9 n10 n11 n12 n13 n14 n15 n16 S).2.2.2.2.2.2.2.2.2.2.2.2.1 (w16 n1 n2 n3 n4 n5 n6 n7 n8 n9 n10 n11 n12 n13 n14 n15 n16 S).2.2.2.2.2.2.2.2.2.2.2.2.2.1 (w16 n1 n2 n3 n4 n5 n6 n7 n8 n9 n10 n11 n12 n13 n14 n15 n16 S).2.2.2.2.2.2.2.2.2.2.2.2.2.2.1 (w16 n1 n2 n3 n4 n5 n6 n7 n8 n9 n10 n11 n12 n13 n14 n15 n16 S).2.2.2.2.2.2.2.2.2.2.2.2.2.2.2) (a1:α1)(a2:α2)(a3:α3)(a4:α4)(a5:α5)(a6:α6)(a7:α7)(a8:α8)(a9:α9)(a10:α10)(a11:α11)(a12:α12)(a13:α13)(a14:α14)(a15:α15)(a16:α16):S a1 a2 a3 a4 a5 a6 a7 a8 a9 a10 a11 a12 a13 a14 a15 a16:=all1 (aA n1 (aA n2 (aA n3 (aA n4 (aA n5 (aA n6 (aA n7 (aA n8 (aA n9 (aA n10 (aA n11 (aA n12 (aA n13 (aA n14 (aA n15 n16))))))))))))))) (S:=fun p=>S p.1 p.2.1 p.2.2.1 p.2.2.2.1 p.2.2.2.2.1 p.2.2.2.2.2.1 p.2.2.2.2.2.2.1 p.2.2.2.2.2.2.2.1 p.2.2.2.2.2.2.2.2.1 p.2.2.2.2.2.2.2.2.2.1 p.2.2.2.2.2.2.2.2.2.2.1 p.2.2.2.2.2.2.2.2.2.2.2.1 p.2.2.2.2.2.2.2.2.2.2.2.2.1 p.2.2.2.2.2.2.2.2.2.2.2.2.2.1 p.2.2.2.2.2.2.2.2.2.2.2.2.2.2.1 p.2.2.2.2.2.2.2.2.2.2.2.2.2.2.2) h (a1,a2,a3,a4,a5,a6,a7,a8,a9,a10,a11,a12,a13,a14,a15,a16)
end
namespace Ar
inductive E where
 |v (i:Nat)|k (n:Nat)|bin (o:Nat) (a b:E)|mul (t:Bool) (n:Nat) (a:E)|c (a:E)
inductive F where
 |rel (s:Bool) (r:Nat) (a b:E)|lg (t:Bool) (p q:F)|not (p:F)|ff
def Ou:List Nat→Nat→Nat
 |[],_=>0
 |a::l,i=>match i with|0=>a|i+1=>Ou l i
section
variable (x:List Nat)
def dn:E→Nat
 | .v i=>Ou x i
 | .k n=>n
 | .bin o a b=>match o with|0=>dn a+dn b|1=>dn a - dn b|2=>min (dn a) (dn b)|_=>max (dn a) (dn b)
 | .mul t n b=>match t with|true=>n*dn b|false=>dn b*n
 | .c a=>dn a
def di:E→Int
 | .v i=>(Ou x i:Int)
 | .k n=>(n:Int)
 | .bin o a b=>match o with|0=>di a+di b|1=>di a - di b|2=>min (di a) (di b)|_=>max (di a) (di b)
 | .mul t n b=>match t with|true=>n*di b|false=>di b*n
 | .c a=>(dn x a:Int)
def df:F→Prop
 | .rel s r a b=>match s with
  |false=>match r with|0=>dn x a≤dn x b|1=>dn x a<dn x b|_=>dn x a=dn x b
  |true=>match r with|0=>di x a≤di x b|1=>di x a<di x b|_=>di x a=di x b
 | .lg t p q=>match t with|true=>df p∧df q|false=>df p∨df q
 | .not p=> ¬df p
 | .ff=>False
end
def lc (p q:Int):List Int→List Int→List Int
 |[],l=>l.map (q* ·)
 |a::l,m=>match m with|[]=>(a::l).map (p* ·)|b::m=>(p*a+q*b)::lc p q l m
abbrev mi (f g:List Int):List Int:=lc 1 (-1) f g
def Hs:Nat→List Int
 |0=>[1]
 |n+1=>0::Hs n
abbrev Ct:=Nat→Option Nat
def sq (a b:Ct):Ct:=fun d=>match a d with|some d=>b d|none=>none
abbrev Cs:=List (List Int)
abbrev KK:=Cs→List Int→Ct
def bn (o:Nat) (s:Bool) (f g:List Int) (cs:Cs) (K:KK):Ct:=match o with
 |0=>K cs (lc 1 1 f g)
 |1=>match s with
  |true=>K cs (mi f g)
  |false=>sq (K (mi f g::cs) (mi f g)) (K (mi (mi g f) [1]::cs) [])
 |2=>sq (K (mi g f::cs) f) (K (mi f g::cs) g)
 |_=>sq (K (mi f g::cs) f) (K (mi g f::cs) g)
def Kp:Bool→E→Cs→KK→Ct
 |_, .v i,cs,K=>K cs (Hs (i+1))
 |_, .k n,cs,K=>K cs [n]
 |s, .bin o a b,cs,K=>Kp s a cs fun cs f=>Kp s b cs fun cs g=>bn o s f g cs K
 |s, .mul _ n a,cs,K=>Kp s a cs fun cs f=>K cs (lc n 0 f [])
 |_, .c a,cs,K=>Kp false a cs K
def Rh (t:Bool) (r:Nat) (f g:List Int) (cs:Cs) (K:Cs→Ct):Ct:=match r with
 |0=>match t with
  |true=>K (mi g f::cs)
  |false=>K (mi (mi f g) [1]::cs)
 |1=>match t with
  |true=>K (mi (mi g f) [1]::cs)
  |false=>K (mi f g::cs)
 |_=>match t with
  |true=>K (mi g f::mi f g::cs)
  |false=>sq (K (mi (mi g f) [1]::cs)) (K (mi (mi f g) [1]::cs))
def Jo:Bool→F→Cs→(Cs→Ct)→Ct
 |t, .rel s r a b,cs,K=>Kp s a cs fun cs f=>Kp s b cs fun cs g=>Rh t r f g cs K
 |t, .lg u p q,cs,K=>bif t==u then Jo t p cs fun cs=>Jo t q cs K else sq (Jo t p cs K) (Jo t q cs K)
 |t, .not p,cs,K=>Jo (!t) p cs K
 |t, .ff,cs,K=>bif t then some else K cs
def Du:Cs→List Int→Nat→List Int×Nat
 |[],acc,d=>(acc,d)
 |c::cs,acc,d=>Du cs (lc 1 (d%32:Nat) acc c) (d/ 32)
def Pm:List Int→Bool
 |[]=>false
 |a::l=>decide (a<0)&&l.all fun b=>decide (b≤0)
def nQ (cs:Cs):Ct:=fun d=>bif Pm (Du cs [] d).1 then some (Du cs [] d).2 else none
def Pi:List F→Cs→(Cs→Ct)→Ct
 |[],cs,K=>K cs
 |f::fs,cs,K=>Jo true f cs fun cs=>Pi fs cs K
def Jl (g:F) (hs:List F) (d:Nat):Bool:=(Pi hs [] (fun cs=>Jo false g cs nQ) d).isSome
def kY:List Int→(Nat→Nat)→Int
 |[],_=>0
 |a::l,f=>a*f 0+kY l fun i=>f (i+1)
section
variable {a b:Int}{cs:Cs}{l:List Int}
variable (x:List Nat)
def val (s:Bool) (e:E):Int:=match s with|true=>di x e|false=>(dn x e:Int)
def X:Nat→Nat
 |0=>1
 |i+1=>Ou x i
def H (cs:Cs):Prop:= ∀c∈cs,0≤kY c (X x)
def Ok (a:Ct):Prop:= ∃d d',a d=some d'
variable {x}
theorem H.cons {c:List Int} (k:H x cs) {z:Int} (e:kY c (X x)=z) (h:0≤z):H x (c::cs):=nv.mpr ⟨e▸h,k⟩
theorem nB {a b:Ct} (h:Ok (sq a b)):Ok a∧Ok b:=h.elim fun d h=>h.elim fun d' h=>by
 unfold sq at h;cases e:a d with
 |none=>rw [e] at h;cases h
 |some u=>rw [e] at h;exact ⟨⟨d,u,e⟩,⟨u,d',h⟩⟩
theorem yA (q:Int) (l:List Int): ∀f,kY (l.map (q* ·)) f=q*kY l f:=by
 induction l with
 |nil=>exact fun f=>(r9 q).symm
 |cons a l ih=>intro f;show q*a*f 0+kY (l.map (q* ·)) _=q*(a*f 0+kY l _);rw [ih,s7,q7]
theorem tI (p q:Int) (l:List Int): ∀m f,kY (lc p q l m) f=p*kY l f+q*kY m f:=by
 induction l with
 |nil=>intro m f;show kY (m.map (q* ·)) f=p*0+_;rw [yA,r9,Int.zero_add]
 |cons a l ih=>
  intro m f;cases m with
  |nil=>show kY ((a::l).map (p* ·)) f=_+q*0;rw [yA,r9,m8]
  |cons b m=>show (p*a+q*b)*f 0+kY (lc p q l m) _=p*(a*f 0+kY l _)+q*(b*f 0+kY m _);rw [ih,Int.add_mul,s7,s7,q7,q7,Int.add_assoc,Int.add_left_comm (q*_), ←Int.add_assoc]
theorem eV {m:List Int} {f:Nat→Nat} (h:kY l f=a) (k:kY m f=b):kY (mi l m) f=a - b:=by rw [tI,h,k,mn,Int.neg_mul,mn];rfl
theorem Fr (i:Nat): ∀f,kY (Hs i) f=f i:=by
 induction i with
 |zero=>intro f;show 1*(f 0:Int)+0=_;rw [mn,m8]
 |succ i ih=>intro f;show 0*(f 0:Int)+kY (Hs i) _=_;rw [ih,Int.zero_mul,Int.zero_add]
theorem zP (a:Int):kY [a] (X x)=a:=by show a*1+0=a;rw [Int.mul_one,m8]
theorem tE (h:b≤a):0≤a - b:=sz h
theorem Fa (h:b<a):0≤a - b - 1:=sz (Int.le_sub_left_of_add_le h)
def LO (x:List Nat) (e:E):Prop:= ∀(s:Bool) (cs:Cs) (K:KK),Ok (Kp s e cs K)→H x cs→ ∃cs' f,H x cs'∧kY f (X x)=val x s e∧Ok (K cs' f)
theorem Eu (e:E):LO x e:=by
 induction e with
 |v i=>exact fun s cs K h hc=>⟨cs,_,hc,(Fr _ _).trans (by cases s<;>rfl),h⟩
 |k n=>exact fun s cs K h hc=>⟨cs,_,hc,(zP _).trans (by cases s<;>rfl),h⟩
 |bin o a b ia ib=>
  intro s cs K h hc;obtain ⟨cs1,f,h1,hf,h3⟩:=ia _ _ _ h hc;obtain ⟨cs',g,h1,hg,h⟩:=ib _ _ _ h3 h1;clear h3 ia ib hc
  match o with
  |0=>exact ⟨_,_,h1,by rw [tI,hf,hg,mn,mn];cases s<;>rfl,h⟩
  |1=>
   cases s with
   |true=>exact ⟨_,_,h1,eV hf hg,h⟩
   |false=>
    have h:=nB h;rcases j9 (dn x a) (dn x b) with q|q
    ·exact ⟨_,_,h1.cons (eV (eV hg hf) (zP _)) (Fa (lh.mpr q)),congrArg ql (se (de q)).symm,h.2⟩
    ·exact ⟨_,_,h1.cons (eV hf hg) (tE (jd.mpr q)),(eV hf hg).trans (Int.ofNat_sub q).symm,h.1⟩
  |2=>
   have h:=nB h;rcases Int.le_total (val x s a) (val x s b) with q|q
   ·exact ⟨_,_,h1.cons (eV hg hf) (tE q),hf.trans (by cases s with|true=>exact (Int.min_eq_left q).symm|false=>exact congrArg ql (jt (jd.mp q)).symm),h.1⟩
   ·exact ⟨_,_,h1.cons (eV hf hg) (tE q),hg.trans (by cases s with|true=>exact (Int.min_eq_right q).symm|false=>exact congrArg ql (j8 (jd.mp q)).symm),h.2⟩
  |_+3=>
   have h:=nB h;rcases Int.le_total (val x s a) (val x s b) with q|q
   ·exact ⟨_,_,h1.cons (eV hg hf) (tE q),hg.trans (by cases s with|true=>exact (Int.max_eq_right q).symm|false=>exact congrArg ql (Nat.max_eq_right (jd.mp q)).symm),h.2⟩
   ·exact ⟨_,_,h1.cons (eV hf hg) (tE q),hf.trans (by cases s with|true=>exact (Int.max_eq_left q).symm|false=>exact congrArg ql (Nat.max_eq_left (jd.mp q)).symm),h.1⟩
 |mul t n a ia=>
  intro s cs K h hc;obtain ⟨cs',f,h1,h2,h3⟩:=ia _ _ _ h hc;refine ⟨cs',_,h1,?_,h3⟩;rw [tI,h2,Int.zero_mul,m8];cases t with
  |true=>cases s<;>rfl
  |false=>rw [Int.mul_comm];cases s<;>rfl
 |c a ia=>exact fun s cs K h hc=>(ia _ _ _ h hc).imp fun cs' h=>h.imp fun f h=>⟨h.1,h.2.1.trans (by cases s<;>rfl),h.2.2⟩
def tr (t:Bool) (p:Prop):Prop:=match t with|true=>p|false=> ¬p
def rr (r:Nat) (a b:Int):Prop:=match r with|0=>a≤b|1=>a<b|_=>a=b
theorem Lv {t:Bool} {r:Nat} {f g:List Int} {K:Cs→Ct} (h:Ok (Rh t r f g cs K)) (hc:H x cs) (hf:kY f (X x)=a) (hg:kY g (X x)=b) (q:tr t (rr r a b)): ∃cs',H x cs'∧Ok (K cs'):=by
 have e1:=eV hf hg;have e2:=eV hg hf;have e3:=eV e1 (zP 1);have e4:=eV e2 (zP 1)
 match r,t with
 |0,true=>exact ⟨_,hc.cons e2 (tE q),h⟩
 |0,false=>exact ⟨_,hc.cons e3 (Fa (Int.not_le.mp q)),h⟩
 |1,true=>exact ⟨_,hc.cons e4 (Fa q),h⟩
 |1,false=>exact ⟨_,hc.cons e1 (tE (Int.not_lt.mp q)),h⟩
 |_+2,true=>exact ⟨_,(hc.cons e1 (tE (Int.le_of_eq (Eq.symm q)))).cons e2 (tE (Int.le_of_eq q)),h⟩
 |_+2,false=>
  have h5:=nB h;rcases Int.lt_or_gt_of_ne q with q|q
  ·exact ⟨_,hc.cons e4 (Fa q),h5.1⟩
  ·exact ⟨_,hc.cons e3 (Fa q),h5.2⟩
theorem Kh (s:Bool) (r:Nat) (a b:E):df x (.rel s r a b)=rr r (val x s a) (val x s b):=by
 cases s with
 |true=>match r with
  |0=>rfl
  |1=>rfl
  |_+2=>rfl
 |false=>match r with
  |0=>exact propext jd.symm
  |1=>exact propext lh.symm
  |_+2=>exact propext Int.ofNat_inj.symm
def FO (x:List Nat) (p:F):Prop:= ∀(t:Bool) (cs:Cs) (K:Cs→Ct),Ok (Jo t p cs K)→H x cs→tr t (df x p)→ ∃cs',H x cs'∧Ok (K cs')
theorem Cp (p:F):FO x p:=by
 induction p with
 |rel s r a b=>intro t cs K h hc q;obtain ⟨cs1,f,h1,h2,h3⟩:=Eu a _ _ _ h hc;obtain ⟨cs2,g,k1,k2,k3⟩:=Eu b _ _ _ h3 h1;exact Lv k3 k1 h2 k2 (Kh s r a b▸q)
 |lg u p q ip iq=>
  intro t cs K h hc e;cases t<;>cases u
  ·obtain ⟨cs1,h1,h2⟩:=ip _ _ _ h hc fun q=>e (.inl q)
   exact iq _ _ _ h2 h1 fun q=>e (.inr q)
  ·by_cases ep:df x p
   ·exact iq _ _ _ (nB h).2 hc fun eq=>e ⟨ep,eq⟩
   ·exact ip _ _ _ (nB h).1 hc ep
  ·exact Or.elim e (fun e=>ip _ _ _ (nB h).1 hc e) fun e=>iq _ _ _ (nB h).2 hc e
  ·obtain ⟨cs1,h1,h2⟩:=ip _ _ _ h hc (And.left e)
   exact iq _ _ _ h2 h1 (And.right e)
 |not p ip=>exact fun t cs K h hc e=>ip _ _ _ h hc (by cases t with|true=>exact e|false=>exact oh.mp e)
 |ff=>
  intro t cs K h hc e;cases t with
  |true=>exact False.elim e
  |false=>exact ⟨cs,hc,h⟩
theorem Hc (l:List Int): ∀f,(l.all fun b=>decide (b≤0))=true→kY l f≤0:=by
 induction l with
 |nil=>exact fun f _=>Int.le_refl _
 |cons a l ih=>intro f h;have h:=sr.mp h;exact Int.add_nonpos (Int.mul_nonpos_of_nonpos_of_nonneg (of_decide_eq_true h.1) (bi _)) (ih _ h.2)
theorem Hz (cs:Cs): ∀acc d,H x cs→0≤kY acc (X x)→0≤kY (Du cs acc d).1 (X x):=by
 induction cs with
 |nil=>exact fun _ _ _ h=>h
 |cons c cs ih=>intro acc d hc ha;refine ih _ _ (fun c h=>hc c (.tail _ h)) ?_;rw [tI,mn];exact Int.add_nonneg ha (Int.mul_nonneg (bi _) (hc c (.head _)))
theorem Lz (h:Pm l=true) (k:0≤kY l (X x)):False:=by
 cases l with
 |nil=>cases h
 |cons a l=>have h:=sr.mp h;have e:kY (a::l) (X x)=a+kY l _:=congrArg (· +_) (Int.mul_one a);exact Int.not_lt.mpr (e▸k) (Int.add_neg_of_neg_of_nonpos (of_decide_eq_true h.1) (Hc l _ h.2))
theorem Lk (h:Ok (nQ cs)) (hc:H x cs):False:=h.elim fun d h=>h.elim fun d' h=>by
 unfold nQ at h;cases e:Pm (Du cs [] d).1 with
 |true=>exact Lz e (Hz cs [] d hc (Int.le_refl _))
 |false=>rw [e] at h;cases h
theorem Ld (fs:List F): ∀(cs:Cs) (K:Cs→Ct),Ok (Pi fs cs K)→H x cs→(∀f∈fs,df x f)→ ∃cs',H x cs'∧Ok (K cs'):=by
 induction fs with
 |nil=>exact fun cs K h hc _=>⟨cs,hc,h⟩
 |cons f fs ih=>exact fun cs K h hc hf=>(Cp f true cs _ h hc (hf f (.head _))).elim fun cs1 h=>ih _ _ h.2 h.1 fun g hg=>hf g (.tail _ hg)
theorem oV {g:F} {hs:List F} {d:Nat} (h:Jl g hs d=true) (hh: ∀f∈hs,df x f):df x g:=l9 fun q=>(gx.mp h).elim fun d' e=>
 (Ld hs [] _ ⟨_,_,e⟩ (fun _ h=>nomatch h) hh).elim fun cs1 h=>(Cp g false cs1 _ h.2 h.1 q).elim fun cs2 h=>Lk h.2 h.1
end
def run:Nat→Nat→List E→List F→List F
 |0,_,_,fs=>fs
 |n+1,c,es,fs=>
  bif (c%32).beq 0 then fs
  else bif (c%32).ble 7 then run n (c/ 32) (.v (c%32 - 1)::es) fs
  else bif (c%32).beq 8 then run n (c/ 1024) (.k (c/ 32%32)::es) fs
  else bif (c%32).beq 9 then run n (c/ 33554432) (.k (c/ 32%1048576)::es) fs
  else bif (c%32).beq 28 then run n (c/ 32) es (.ff::fs)
  else match es,fs with
   |b::es,fs=>
    bif (c%32).beq 14 then run n (c/ 32) (.c b::es) fs
    else bif (c%32).ble 17&&Nat.ble 16 (c%32) then run n (c/ 1024) (.mul ((c%32).beq 16) (c/ 32%32) b::es) fs
    else match es with
     |a::es=>bif (c%32).ble 13 then run n (c/ 32) (.bin (c%32 - 10) a b::es) fs else run n (c/ 32) es (.rel (Nat.ble 21 (c%32)) ((c%32 - 18)%3) a b::fs)
     |[]=>fs
   |[],p::fs=>bif (c%32).beq 27 then run n (c/ 32) [] (.not p::fs) else match fs with
    |q::fs=>run n (c/ 32) [] (.lg ((c%32).beq 25) q p::fs)
    |[]=>[]
   |[],[]=>[]
def nx:Nat→List F→F
 |_,[]=> .ff
 |n,f::l=>match n with|0=>f|n+1=>nx n l
def nf (c i:Nat):F:=nx i (run 200 c [] [])
def c0 (c d:Nat):Bool:=Jl (nf c 0) [] d
def c1 (c d:Nat):Bool:=Jl (nf c 0) [nf c 1] d
def c2 (c d:Nat):Bool:=Jl (nf c 0) [nf c 1,nf c 2] d
def c3 (c d:Nat):Bool:=Jl (nf c 0) [nf c 1,nf c 2,nf c 3] d
def c4 (c d:Nat):Bool:=Jl (nf c 0) [nf c 1,nf c 2,nf c 3,nf c 4] d
theorem fc {P:F→Prop} {a:F} {l:List F} (h:P a) (k: ∀q∈l,P q): ∀q∈a::l,P q:=nv.mpr ⟨h,k⟩
end Ar
section
variable (c d:Nat) (x:List Nat)
open Ar
theorem jP (h:c0 c d=true:=by kernel_rfl):df x (nf c 0):=oV h fun _ h=>nomatch h
theorem aQ (h1:df x (nf c 1)) (h:c1 c d=true:=by kernel_rfl):df x (nf c 0):=oV h (Ar.fc h1 fun _ h=>nomatch h)
theorem aW (h1:df x (nf c 1)) (h2:df x (nf c 2)) (h:c2 c d=true:=by kernel_rfl):df x (nf c 0):=oV h (Ar.fc h1 (Ar.fc h2 fun _ h=>nomatch h))
theorem hW (h1:df x (nf c 1)) (h2:df x (nf c 2)) (h3:df x (nf c 3)) (h:c3 c d=true:=by kernel_rfl):df x (nf c 0):=oV h (Ar.fc h1 (Ar.fc h2 (Ar.fc h3 fun _ h=>nomatch h)))
theorem Cf (h1:df x (nf c 1)) (h2:df x (nf c 2)) (h3:df x (nf c 3)) (h4:df x (nf c 4)) (h:c4 c d=true:=by kernel_rfl):df x (nf c 0):=oV h (Ar.fc h1 (Ar.fc h2 (Ar.fc h3 (Ar.fc h4 fun _ h=>nomatch h))))
end
end
section
variable {G P0 P1 P2:Prop}{a:Addr}{h h':Heap}{vs:List ak}{α0 α1 α2:Type}{σ τ:List Addr}
theorem Ja (h:P0∧P1∧P2) (k:P0→P1→P2→G):G:=by obtain ⟨h0,h1,h2⟩:=h;exact k h0 h1 h2
theorem xA {P3:Prop} (h:P0∧P1∧P2∧P3) (k:P0→P1→P2→P3→G):G:=by obtain ⟨h0,h1,h2,h3⟩:=h;exact k h0 h1 h2 h3
theorem aE {P0 P1:α0→Prop} (h: ∃a0,P0 a0∧P1 a0) (k: ∀a0,P0 a0→P1 a0→G):G:=by obtain ⟨a0,h0,h1⟩:=h;exact k a0 h0 h1
theorem nN {P0 P1 P2:α0→Prop} (h: ∃a0,P0 a0∧P1 a0∧P2 a0) (k: ∀a0,P0 a0→P1 a0→P2 a0→G):G:=by obtain ⟨a0,h0,h1,h2⟩:=h;exact k a0 h0 h1 h2
theorem uB {P0 P1 P2 P3:α0→Prop} (h: ∃a0,P0 a0∧P1 a0∧P2 a0∧P3 a0) (k: ∀a0,P0 a0→P1 a0→P2 a0→P3 a0→G):G:=by obtain ⟨a0,h0,h1,h2,h3⟩:=h;exact k a0 h0 h1 h2 h3
theorem Pk {P0 P1 P2 P3 P4 P5:α0→Prop} (h: ∃a0,P0 a0∧P1 a0∧P2 a0∧P3 a0∧P4 a0∧P5 a0) (k: ∀a0,P0 a0→P1 a0→P2 a0→P3 a0→P4 a0→P5 a0→G):G:=by obtain ⟨a0,h0,h1,h2,h3,h4,h5⟩:=h;exact k a0 h0 h1 h2 h3 h4 h5
theorem My {P0:α0→α1→Prop} (h: ∃a0, ∃a1,P0 a0 a1) (k: ∀a0, ∀a1,P0 a0 a1→G):G:=by obtain ⟨a0,a1,h0⟩:=h;exact k a0 a1 h0
theorem cH {P0 P1:α0→α1→Prop} (h: ∃a0, ∃a1,P0 a0 a1∧P1 a0 a1) (k: ∀a0, ∀a1,P0 a0 a1→P1 a0 a1→G):G:=by obtain ⟨a0,a1,h0,h1⟩:=h;exact k a0 a1 h0 h1
theorem fW {P0 P1 P2:α0→α1→Prop} (h: ∃a0, ∃a1,P0 a0 a1∧P1 a0 a1∧P2 a0 a1) (k: ∀a0, ∀a1,P0 a0 a1→P1 a0 a1→P2 a0 a1→G):G:=by obtain ⟨a0,a1,h0,h1,h2⟩:=h;exact k a0 a1 h0 h1 h2
theorem Py {P0 P1 P2:α0→α1→α2→Prop} (h: ∃a0, ∃a1, ∃a2,P0 a0 a1 a2∧P1 a0 a1 a2∧P2 a0 a1 a2) (k: ∀a0, ∀a1, ∀a2,P0 a0 a1 a2→P1 a0 a1 a2→P2 a0 a1 a2→G):G:=by obtain ⟨a0,a1,a2,h0,h1,h2⟩:=h;exact k a0 a1 a2 h0 h1 h2
theorem Pb {P0 P1 P2 P3 P4 P5:α0→α1→α2→Prop} (h: ∃a0, ∃a1, ∃a2,P0 a0 a1 a2∧P1 a0 a1 a2∧P2 a0 a1 a2∧P3 a0 a1 a2∧P4 a0 a1 a2∧P5 a0 a1 a2) (k: ∀a0, ∀a1, ∀a2,P0 a0 a1 a2→P1 a0 a1 a2→P2 a0 a1 a2→P3 a0 a1 a2→P4 a0 a1 a2→P5 a0 a1 a2→G):G:=by obtain ⟨a0,a1,a2,h0,h1,h2,h3,h4,h5⟩:=h;exact k a0 a1 a2 h0 h1 h2 h3 h4 h5
theorem zY {α3:Type} {P0 P1 P2 P3 P4 P5:α0→α1→α2→α3→Prop} (h: ∃a0, ∃a1, ∃a2, ∃a3,P0 a0 a1 a2 a3∧P1 a0 a1 a2 a3∧P2 a0 a1 a2 a3∧P3 a0 a1 a2 a3∧P4 a0 a1 a2 a3∧P5 a0 a1 a2 a3) (k: ∀a0, ∀a1, ∀a2, ∀a3,P0 a0 a1 a2 a3→P1 a0 a1 a2 a3→P2 a0 a1 a2 a3→P3 a0 a1 a2 a3→P4 a0 a1 a2 a3→P5 a0 a1 a2 a3→G):G:=by obtain ⟨a0,a1,a2,a3,h0,h1,h2,h3,h4,h5⟩:=h;exact k a0 a1 a2 a3 h0 h1 h2 h3 h4 h5
set_option genCtorIdx true in
inductive PV where
 |none|bool (b:Bool)|int (i:Int)|str (s:Str)|ref (i:Nat)|glob (v:ak)
set_option genCtorIdx true in
inductive PO where
 |list (xs:List PV)|tuple (xs:List PV)|range (n:Int)|junk
 |raw (R:List ak→Obj→Prop) (xs:List PV)
structure St where
 v:List (Option PV)
 h:List PO
def VR (σ:List Addr):PV→ak→Prop
 | .none,v=>v= .none
 | .bool b,v=>v= .bool b
 | .int i,v=> ∃t,v= .int i t
 | .str x,v=> ∃t,v= .str x t
 | .ref i,v=> ∃a,σ[i]? =some a∧v= .ref a
 | .glob u,v=>v=u
theorem VR.mono {p:PV} {v:ak} (h:VR σ p v):VR (σ++τ) p v:=by
 cases p with
 |ref i=>obtain ⟨a,h1,h2⟩:=h;exact ⟨a,by rw [bh (af.mp h1).1];exact h1,h2⟩
 |_=>exact h
inductive cF (σ:List Addr):List PV→List ak→Prop
 |nil:cF σ [] []
 |cons {p v ps vs}:VR σ p v→cF σ ps vs→cF σ (p::ps) (v::vs)
theorem cF.nilE (h:cF σ [] vs):vs=[]:=by cases h;rfl
theorem cF.consE {p:PV} {ps:List PV} (h:cF σ (p::ps) vs): ∃v us,vs=v::us∧VR σ p v∧cF σ ps us:=by cases h with|cons a r=>exact ⟨_,_,rfl,a,r⟩
theorem cF.oneE {p:PV} (h:cF σ [p] vs): ∃v,vs=[v]∧VR σ p v:=by cases h with|cons a r=>cases r;exact ⟨_,rfl,a⟩
theorem Ad (h:vs.length=1): ∃v,vs=[v]:=List.length_eq_one_iff.mp h
theorem Lb (h:vs.length=2): ∃v u,vs=[v,u]:=by
 cases vs with
 |nil=>cases h
 |cons v r=>obtain ⟨u,e⟩:=Ad (Nat.succ.inj h);exact ⟨v,u,by rw [e]⟩
theorem cF.mono {ps:List PV} (h:cF σ ps vs):cF (σ++τ) ps vs:=by
 induction h with
 |nil=>exact .nil
 |cons a _ ih=>exact .cons a.mono ih
theorem cF.append {ps qs:List PV} {us:List ak} (h:cF σ ps vs) (k:cF σ qs us):cF σ (ps++qs) (vs++us):=by
 induction h with
 |nil=>exact k
 |cons a _ ih=>exact .cons a ih
theorem cF.length {ps:List PV} (h:cF σ ps vs):vs.length=ps.length:=by
 induction h with
 |nil=>rfl
 |cons _ _ ih=>simp [ih]
theorem cF.get {ps:List PV} (h:cF σ ps vs): ∀{i:Nat} {p:PV},ps[i]? =some p→ ∃v,vs[i]? =some v∧VR σ p v:=by
 induction h with
 |nil=>intro i p e;simp at e
 |cons a _ ih=>
  intro i p e;cases i with
  |zero=>simp only [ms,cy] at e;subst e;exact ⟨_,rfl,a⟩
  |succ i=>simpa using ih (i:=i) (p:=p) (by simpa using e)
def OS (σ:List Addr):PO→Obj→Prop
 | .list xs,o=> ∃vs n,o=listOf vs.toArray n∧cF σ xs vs
 | .tuple xs,o=> ∃vs n,o={cls:= .type "tuple",data:= .seq vs.toArray n}∧cF σ xs vs
 | .range n,o=> ∃t u v,o={cls:= .type "range",data:= .fields #[.int 0 t, .int n u, .int 1 v]}
 | .junk,o=>True
 | .raw R xs,o=> ∃vs,R vs o∧cF σ xs vs
theorem OS.mono {p:PO} {o:Obj} (x:OS σ p o):OS (σ++τ) p o:=by
 cases p with
 |list=>obtain ⟨vs,n,e,r⟩:=x;exact ⟨vs,n,e,r.mono⟩
 |tuple=>obtain ⟨vs,n,e,r⟩:=x;exact ⟨vs,n,e,r.mono⟩
 |range=>exact x
 |junk=>trivial
 |raw=>obtain ⟨vs,e,r⟩:=x;exact ⟨vs,e,r.mono⟩
inductive OR (σ:List Addr) (h:Heap) (a:Addr) (p:PO):Prop
 |mk (o:Obj) (e:h.get? a=some o) (r:OS σ p o):OR σ h a p
theorem OR.lt {o:PO} (x:OR σ h a o):a<h.objs.size:=by cases x with|mk _ e _=>exact dc e
theorem OR.mono {o:PO} (x:OR σ h a o) (k:h'.get? a=h.get? a):OR (σ++τ) h' a o:=by cases x with|mk o e r=>exact ⟨o,k.trans e,r.mono⟩
theorem OR.keep {o:PO} (x:OR σ h a o) (k:h'.get? a=h.get? a):OR σ h' a o:=by cases x with|mk o e r=>exact ⟨o,k.trans e,r⟩
structure HR (σ:List Addr) (H:List PO) (h:Heap):Prop where
 len:σ.length=H.length
 nd:σ.Nodup
 at_: ∀(i:Nat) (a:Addr) (o:PO),σ[i]? =some a→H[i]? =some o→OR σ h a o
theorem HR.lt {H:List PO} (x:HR σ H h): ∀a∈σ,a<h.objs.size:=fun a ha=>by obtain ⟨i,hi,e⟩:=gw ha;obtain hi':i<H.length:=x.len▸hi;exact (x.at_ i a H[i] (by rw [ae hi,e]) (ae hi')).lt
theorem HR.keep {H:List PO} (x:HR σ H h) (k: ∀a∈σ,h'.get? a=h.get? a):HR σ H h':=
 ⟨x.len,x.nd,fun i a o e f=>(x.at_ i a o e f).keep (k a (fh e))⟩
theorem HR.alloc {H:List PO} {o:Obj} {p:PO} (x:HR σ H h) (ho:o.isFreed=false) (hp:OR (σ++[h.objs.size]) (h.push o) h.objs.size p):HR (σ++[h.objs.size]) (H++[p]) (h.push o):=by
 refine ⟨by simp [x.len],?_,?_⟩
 ·rw [k8]
  refine ⟨x.nd,by simp,fun a ha b hb=>?_⟩;rw [bk] at hb;subst hb;exact ez (x.lt a ha)
 ·intro i a q e f
  by_cases hi:i<σ.length
  ·rw [bh hi] at e
   rw [bh (x.len▸hi)] at f;exact (x.at_ i a q e f).mono (Heap.get?_push_ne h a o (ez (x.lt a (fh e))))
  ·obtain hi':i=σ.length:=by
    have h1:=(af.mp e).1;simp at h1;exact aW 0x14107731066a0a041 0x108401 [_,_] hi h1
   subst hi';rw [bf (ay _)] at e;rw [x.len,bf (ay _)] at f;simp at e f;subst e f;exact hp
theorem HR.upd {H:List PO} {i:Nat} {p:PO} (x:HR σ H h) (ha:σ[i]? =some a) (hs:j7 a h h') (hp:OR σ h' a p):HR σ (H.set i p) h':=by
 refine ⟨by simp [x.len],x.nd,fun j b q e f=>?_⟩;by_cases hij:i=j
 ·subst hij
  rw [ha] at e;cases e;have hl:=(af.mp ha).1;rw [gu (x.len▸hl)] at f;cases f;exact hp
 ·rw [fi hij] at f
  have hb:b≠a:=fun q=>by subst q;obtain ⟨h1,e1⟩:=af.mp ha;obtain ⟨h2,e2⟩:=af.mp e;exact hij ((List.getElem_inj x.nd).mp (e1.trans e2.symm))
  exact (x.at_ j b q e f).keep (hs.2 b hb)
structure Cx where
 w:aw
 A:jx
 env:Env
 E:ak→az→Prop
 K:Frag
 g:Array GenState
 d:Drawn
 os:au
 vis:List (Str×Nat)
 own:List Str
 tp:Addr
theorem neStr:Nonempty Str:=⟨default⟩
theorem neHp:Nonempty Heap:=⟨default⟩
theorem neSt:Nonempty St:=⟨⟨[],[]⟩⟩
theorem nePV:Nonempty PV:=⟨.none⟩
theorem nePO:Nonempty PO:=⟨.junk⟩
theorem neCx:Nonempty Cx:=⟨⟨aWorld 1,callerA,default,fun _ _=>False,[],#[],⟨0,0,0,0⟩,default,[],[],0⟩⟩
theorem neWo:Nonempty aw:=⟨aWorld 1⟩
theorem neSh:Nonempty az:=⟨⟨default,#[],⟨0,0,0,0⟩,0,default⟩⟩
theorem neAr:Nonempty jx:=⟨callerA⟩
abbrev pw:n0:=PySem.Challenge.pw_oy0429_01
end
section
variable {B h h':Heap}{a:Addr}{env:Env}{m:Str→Option ak}{u:ak}{x:Str}{σ:List Addr}
inductive eN (env:Env) (h:Heap) (m:Str→Option ak) (x:Str) (u:ak):Prop
 |loc (hk:env.kindOf x=some .local) (hm:m x=some u):eN env h m x u
 |cell {c:Addr} (hk:env.kindOf x=some .cell∨env.kindOf x=some .free) (hc:env.cells.lookup x=some c) (hi:h.IsCell c (some u)):eN env h m x u
theorem eN.to {m':Str→Option ak} (v:eN env h m x u) (km:m x=some u→m' x=some u) (k: ∀c,env.cells.lookup x=some c→h.IsCell c (some u)→h'.IsCell c (some u)):eN env h' m' x u:=by
 cases v with
 |loc hk hm=>exact .loc hk (km hm)
 |cell hk hc hi=>exact .cell hk hc (k _ hc hi)
abbrev Cx.privs (C:Cx):List Addr:=C.env.locals::C.env.cells.map (·.2)
abbrev Cx.wr (C:Cx):List Addr:=C.env.locals::C.own.filterMap fun x=>C.env.cells.lookup x
abbrev Cx.fs (C:Cx):List Addr:=(C.A.frames.getD []).filterMap (·.frame)
structure lH (K:Frag) (h:Heap):Prop where
 KX:K.In h
 lim:h.NoLimit
 glob: ∃mg,h.Ns ca mg
 blt: ∃mb,h.Ns builtinsNs mb∧ ∀x,x≠("__name__":Str)→mb x=bootBuiltins x
structure Cx.Ok (C:Cx):Prop where
 kind:C.env.scope.kind= .function
 glob:C.env.globals=ca
 bltn:C.env.builtins=builtinsNs
 nd:C.privs.Nodup
 wlow: ∀a∈C.wr,C.tp≤a
 ktop:260≤C.tp∧ ∀a o,C.K.lookup a=some o→a<C.tp
 inj: ∀x y i,C.vis.lookup x=some i→C.vis.lookup y=some i→x=y
 flow: ∀f∈C.fs,C.tp≤f
 frs: ∃e r,C.A.frames=some (e::r)∧e.frame=C.env.frame∧ ∀x∈e::r,x.scope.kind= .function∧ ∃f,x.frame=some f
structure fC (C:Cx) (B:Heap) (σ:List Addr) (h:Heap):Prop where
 al: ∀f∈C.fs, ∃o,h.get? f=some o∧ ∀vs,o.data≠ .fields vs
 nσ: ∀f∈C.fs,f∉σ
 kp: ∀f∈C.fs,f∉C.wr→ ∀o,B.get? f=some o→ ∃sl,h.get? f=some {o with slots:=sl}
theorem fC.keeps {C:Cx} (x:fC C B σ h) (k: ∀b o,h.get? b=some o→h'.get? b=some o):fC C B σ h':=
 ⟨fun f m=>(x.al f m).imp fun o e=>⟨k f o e.1,e.2⟩,x.nσ,fun f m w o e=>(x.kp f m w o e).imp fun sl e=>k _ _ e⟩
theorem fC.keepsF {C:Cx} (x:fC C B σ h) (k: ∀b o,b∈C.fs→h.get? b=some o→h'.get? b=some o):fC C B σ h':=
 ⟨fun f m=>(x.al f m).imp fun o e=>⟨k f o m e.1,e.2⟩,x.nσ,fun f m w o e=>(x.kp f m w o e).imp fun sl e=>k _ _ m e⟩
theorem fC.same {C:Cx} (x:fC C B σ h) (k:j7 a h h') (ha:a∈C.wr∨a∉C.fs) (hal:a∈C.fs→ ∃o,h'.get? a=some o∧ ∀vs,o.data≠ .fields vs):fC C B σ h':=by
 refine ⟨fun f m=>?_,x.nσ,fun f m w o e=>?_⟩
 ·by_cases q:f=a
  ·subst q;exact hal m
  ·exact (x.al f m).imp fun o e=>⟨(k.2 f q).trans e.1,e.2⟩
 ·have q:f≠a:=fun q=>by subst q;rcases ha with h|h;exact w h;exact h m
  exact (x.kp f m w o e).imp fun sl e=>(k.2 f q).trans e
theorem fC.now {C:Cx} (x:fC C B σ h):fC C h σ h:=⟨x.al,x.nσ,fun f m w o e=>⟨o.slots,e⟩⟩
theorem fC.sub {C:Cx} {τ:List Addr} (x:fC C B σ h) (k: ∀a∈τ,a∈σ):fC C B τ h:=⟨x.al,fun f m hm=>x.nσ f m (k f hm),x.kp⟩
theorem fC.alloc {C:Cx} (x:fC C B σ h) (k: ∀b o,h.get? b=some o→h'.get? b=some o) (ha:h.objs.size≤a):fC C B (σ++[a]) h':=by
 refine ⟨(x.keeps k).al,fun f m hm=>?_,(x.keeps k).kp⟩;rcases bq.mp hm with hm|hm
 ·exact x.nσ f m hm
 ·rw [bk] at hm;subst hm
  obtain ⟨o,e,_⟩:=x.al f m;exact absurd (dc e) (fe.mpr ha)
theorem fC.fresh {C:Cx} (x:fC C B σ h) (ha:h.objs.size≤a):a∉C.fs:=fun hm=>by obtain ⟨o,e,_⟩:=x.al a hm;exact absurd (dc e) (fe.mpr ha)
structure Mt (C:Cx) (B:Heap) (T:List Addr) (σ:List Addr) (st:St) (s:az):Prop where
 ok:C.Ok
 top:lH C.K B
 hr:HR σ st.h s.heap
 vars: ∃m,s.heap.Ns C.env.locals m∧ ∀x i v,C.vis.lookup x=some i→st.v[i]? =some (some v)→ ∃u,VR σ v u∧eN C.env s.heap m x u
 cl: ∀x∈C.own, ∀c,C.env.cells.lookup x=some c→ ∃v₀,s.heap.IsCell c v₀
 pal: ∀p∈C.privs, ∃o,s.heap.get? p=some o
 priv: ∀p∈C.privs,p∉σ
 keep: ∀b o,B.get? b=some o→b∉T→b∉C.wr→b∉C.fs→s.heap.get? b=some o
 sub: ∀a∈σ,a∉T→B.get? a=none
 pre:T <+: σ
 low: ∀a∈σ,C.tp≤a
 gens:s.gens=C.g
 drawn:s.drawn=C.d
 os:s.os=C.os
 fr:fC C B σ s.heap
theorem eN.isLoc (v:eN env h m x u) (hk:env.kindOf x=some .local):m x=some u:=by
 cases v with
 |loc _ e=>exact e
 |cell q _ _=>rw [hk] at q;rcases q with q|q<;>cases q
theorem eN.isFree (v:eN env h m x u) (hk:env.kindOf x≠some .local): ∃c,env.cells.lookup x=some c∧h.IsCell c (some u):=by
 cases v with
 |loc q _=>exact absurd q hk
 |cell _ hc hi=>exact ⟨_,hc,hi⟩
theorem List.mem_of_lookup_eq_some' {α β:Type} [BEq α] [LawfulBEq α] {l:List (α×β)} {a:α} {b:β} (h:l.lookup a=some b):(a,b)∈l:=by obtain ⟨l1,l2,e,_⟩:=List.lookup_eq_some_iff.mp h;rw [e];exact rv _ (.head _)
theorem eN.keeps (v:eN env h m x u) (k: ∀b o,h.get? b=some o→h'.get? b=some o):eN env h' m x u:=v.to id fun _ _ i=>i.keeps k
section
variable {a:Addr}{h h':Heap}{o:Obj}{σ':List Addr}
variable {C:Cx} {B:Heap} {T:List Addr} {σ:List Addr} {st:St} {s:az}
theorem bZ (h:a∈C.wr):a∈C.privs:=by
 rcases ar.mp h with h|h
 ·exact h▸ .head _
 ·obtain ⟨x,_,e⟩:=ot.mp h
  exact .tail _ (du (f:=nj) (List.mem_of_lookup_eq_some' e))
theorem Mt.tok (x:Mt C B T σ st s) (t:Nat):Mt C B T σ st {s with toks:=t}:=
 ⟨x.ok,x.top,x.hr,x.vars,x.cl,x.pal,x.priv,x.keep,x.sub,x.pre,x.low,x.gens,x.drawn,x.os,x.fr⟩
theorem Mt.grow (x:Mt C B T σ st s) {h':Heap} (t:Nat) (k: ∀b o,s.heap.get? b=some o→h'.get? b=some o):Mt C B T σ st {s with heap:=h',toks:=t}:=by
 walk_at "T C,B,T,σ,st,s x h',t k";refine ⟨x.ok,x.top,x.hr.keep fun a ha=>?_,?_,fun y hy c hc=>?_,fun p hp=>(x.pal p hp).imp fun o e=>k p o e,x.priv,fun b o e n n' n2=>k b o (x.keep b o e n n' n2),x.sub,x.pre,x.low,x.gens,x.drawn,x.os,x.fr.keeps k⟩
 ·obtain ⟨i,hi,e⟩:=gw ha
  obtain hh:=x.hr.at_ i a (st.h[i]'(x.hr.len▸hi)) (by rw [ae hi,e]) (ae _);obtain ⟨o,ho,_⟩:=hh;rw [ho];exact k a o ho
 ·obtain ⟨m,hm,hv⟩:=x.vars
  exact ⟨m,hm.keeps k,fun y i v h1 h2=>(hv y i v h1 h2).imp fun _ q=>⟨q.1,q.2.keeps k⟩⟩
 ·obtain ⟨v,hv⟩:=x.cl y hy c hc
  exact ⟨v,hv.keeps k⟩
theorem Mt.junk (x:Mt C B T σ st s) (o:Obj):Mt C B T σ st {s with heap:=s.heap.push o}:=
 x.grow s.toks fun b o' e=>cc o e
theorem Mt.fresh (x:Mt C B T σ st s) (a:Addr) (ha:s.heap.objs.size≤a):a∉T→B.get? a=none:=fun hn=>by
 cases e:B.get? a with
 |none=>rfl
 |some o=>exact absurd (dc (x.keep a o e hn (fun hw=>by
   obtain ⟨o',e'⟩:=x.pal a (bZ hw);exact fe.mpr ha (dc e')) (x.fr.fresh ha))) (fe.mpr ha)
theorem Mt.big (x:Mt C B T σ st s):C.tp≤s.heap.objs.size:=by obtain ⟨o,ho⟩:=x.pal _ (.head _);exact aq (x.ok.wlow _ (.head _)) (de (dc ho))
theorem Mt.alloc (x:Mt C B T σ st s) {o:Obj} {p:PO} (ho:o.isFreed=false) (hp:OR (σ++[s.heap.objs.size]) (s.heap.push o) s.heap.objs.size p):
  Mt C B T (σ++[s.heap.objs.size]) {st with h:=st.h++[p]} {s with heap:=s.heap.push o}:=by
 walk_at "T C,B,T,σ,st,s x o,p ho hp";have y:=x.junk o;refine ⟨x.ok,x.top,x.hr.alloc ho hp,?_,y.cl,y.pal,?_,y.keep,?_,?_,?_,x.gens,x.drawn,x.os,x.fr.alloc (fun b o' e=>cc o e) (ay _)⟩
 ·obtain ⟨m,hm,hv⟩:=y.vars
  exact ⟨m,hm,fun n i v h1 h2=>(hv n i v h1 h2).imp fun _ q=>⟨q.1.mono,q.2⟩⟩
 ·intro p' hp' hm
  rcases bq.mp hm with hm|hm
  ·exact x.priv p' hp' hm
  ·rw [bk] at hm
   subst hm;obtain ⟨o',e⟩:=x.pal _ hp';exact ci _ (dc e)
 ·intro a ha hn
  rcases bq.mp ha with ha|ha
  ·exact x.sub a ha hn
  ·rw [bk] at ha;subst ha;exact x.fresh _ (ay _) hn
 ·exact x.pre.trans (dj _ _)
 ·intro a ha
  rcases bq.mp ha with ha|ha
  ·exact x.low a ha
  ·rw [bk] at ha;subst ha;exact x.big
theorem Mt.lowGet (x:Mt C B T σ st s) (h:a<C.tp) (e:B.get? a=some o):s.heap.get? a=some o:=
 x.keep a o e (fun hm=>absurd (x.low a (x.pre.subset hm)) (qk.mpr h)) (fun hw=>absurd (x.ok.wlow a hw) (qk.mpr h)) fun hf=>absurd (x.ok.flow a hf) (qk.mpr h)
theorem Mt.topGet (x:Mt C B T σ st s) (e:C.K.lookup a=some o):s.heap.get? a=some o:=
 x.lowGet (x.ok.ktop.2 a o e) (x.top.KX a o e)
theorem Mt.topNow (x:Mt C B T σ st s):lH C.K s.heap:=by
 refine ⟨fun a o e=>x.topGet e,?_,?_,?_⟩
 ·obtain ⟨mc,h,e⟩:=x.top.lim;exact ⟨mc,h.at fun o=>x.lowGet (c6 (by decide) x.ok.ktop.1),e⟩
 ·obtain ⟨mg,h⟩:=x.top.glob;exact ⟨mg,h.at fun o=>x.lowGet (c6 (by decide) x.ok.ktop.1)⟩
 ·obtain ⟨mb,h,e⟩:=x.top.blt;exact ⟨mb,h.at fun o=>x.lowGet (c6 (by decide) x.ok.ktop.1),e⟩
theorem Mt.rebase (x:Mt C B T σ st s):Mt C s.heap σ σ st s:=
 ⟨x.ok,x.topNow,x.hr,x.vars,x.cl,x.pal,x.priv,fun _ _ e _ _ _=>e,fun a h n=>absurd h n,mq _,x.low,x.gens,x.drawn,x.os,x.fr.now⟩
theorem fC.trans {C:Cx} {B:Heap} {σ:List Addr} (x:fC C B σ h) (y:fC C h σ' h'):fC C B σ' h':=
 ⟨y.al,y.nσ,fun f m w o e=>by obtain ⟨sl,e'⟩:=x.kp f m w o e;obtain ⟨sl',e''⟩:=y.kp f m w _ e';exact ⟨sl',e''⟩⟩
theorem Mt.trans {st':St} {s':az} (x:Mt C B T σ st s) (y:Mt C s.heap σ σ' st' s'):Mt C B T σ' st' s':=
 ⟨x.ok,x.top,y.hr,y.vars,y.cl,y.pal,y.priv,fun b o e n n' n2=>by
  have e':=x.keep b o e n n' n2;refine y.keep b o e' (fun hm=>?_) n' n2
  (rw [x.sub b hm n] at e;cases e),fun a ha hn=>by
  by_cases hs:a∈σ
  ·exact x.sub a hs hn
  ·cases e:B.get? a with
   |none=>rfl
   |some o=>
    have e':=x.keep a o e hn (fun hw=>y.priv a (bZ hw) ha) fun hf=>y.fr.nσ a hf ha
    (rw [y.sub a ha hs] at e';cases e'),x.pre.trans y.pre,y.low,y.gens,y.drawn,y.os,x.fr.trans y.fr⟩
theorem eN.same {env:Env} {m:Str→Option ak} {x:Str} {u:ak} (v:eN env h m x u) (k:j7 a h h') (n: ∀p∈env.cells,p.2≠a):eN env h' m x u:=
 v.to id fun _ e i=>i.sameBut k (n _ (List.mem_of_lookup_eq_some' e))
theorem Mt.upd (x:Mt C B T σ st s) {i:Nat} {a:Addr} {p:PO} {h':Heap} (t:Nat) (ha:σ[i]? =some a) (hs:j7 a s.heap h') (hp:OR σ h' a p):
  Mt C B T σ {st with h:=st.h.set i p} {s with heap:=h',toks:=t}:=by
 walk_at "T C,B,T,σ,st,s x i,a,p,h',t ha hs hp";have hm:=fh ha;have npv: ∀q∈C.privs,q≠a:=fun q hq e=>x.priv q hq (e▸hm);have nc: ∀q∈C.env.cells,q.2≠a:=fun q hq=>npv _ (.tail _ (du hq));refine ⟨x.ok,x.top,x.hr.upd ha hs hp,?_,fun y hy c hc=>?_,fun q hq=>?_,x.priv,fun b o e n n' n2=>?_,x.sub,x.pre,x.low,x.gens,x.drawn,x.os,x.fr.same hs (.inr fun hf=>x.fr.nσ a hf hm) (fun hf=>absurd hm (x.fr.nσ a hf))⟩
 ·obtain ⟨m,hm',hv⟩:=x.vars
  exact ⟨m,hm'.sameBut hs (npv _ (.head _)),fun n j v h1 h2=>(hv n j v h1 h2).imp fun _ q=>⟨q.1,q.2.same hs nc⟩⟩
 ·obtain ⟨v,hv⟩:=x.cl y hy c hc
  exact ⟨v,hv.sameBut hs (nc _ (List.mem_of_lookup_eq_some' hc))⟩
 ·obtain ⟨o,e⟩:=x.pal q hq
  exact ⟨o,(hs.2 q (npv q hq)).trans e⟩
 ·obtain nb:b≠a:=fun q=>by subst q;rw [x.sub b hm n] at e;cases e
  exact (hs.2 b nb).trans (x.keep b o e n n' n2)
theorem Mt.setLocal (x:Mt C B T σ st s) {y:Str} {i:Nat} {v:PV} {u:ak} {m:Str→Option ak} {h':Heap} (t:Nat) (hy:C.vis.lookup y=some i) (hk:C.env.kindOf y=some .local) (hv:VR σ v u)
  (hx: ∀z j w,C.vis.lookup z=some j→st.v[j]? =some (some w)→ ∃u,VR σ w u∧eN C.env s.heap m z u)
  (hn:h'.Ns C.env.locals (fun z=>if z=y then some u else m z)) (hs:j7 C.env.locals s.heap h'):Mt C B T σ {st with v:=st.v.set i (some v)} {s with heap:=h',toks:=t}:=by
 walk_at "T C,B,T,σ,st,s x y,i,v,u,m,h',t hy hk hv hx hn hs";have nc: ∀q∈C.env.cells,q.2≠C.env.locals:=fun q hq e=>(eg.mp x.ok.nd).1 (e▸du hq);obtain nσ: ∀a∈σ,a≠C.env.locals:=fun a ha e=>x.priv _ (.head _) (e▸ha);refine ⟨x.ok,x.top,x.hr.keep fun a ha=>hs.2 a (nσ a ha),?_,fun z hz c hc=>?_,fun q hq=>?_,x.priv,fun b o e n n' n2=>?_,x.sub,x.pre,x.low,x.gens,x.drawn,x.os,x.fr.same hs (.inl (.head _)) (fun _=>by obtain ⟨o,_,_,e,d,_⟩:=hn;exact ⟨o,e,fun vs q=>by rw [d] at q;cases q⟩)⟩
 ·refine ⟨_,hn,fun z j w h1 h2=>?_⟩
  by_cases hz:z=y
  ·subst hz
   rw [hy] at h1;cases h1;have:w=v:=by
    obtain hl:i<st.v.length:=by have:=(af.mp h2).1;simpa using this
    rw [gu hl] at h2;exact (ba (ba h2)).symm
   subst this;exact ⟨u,hv, .loc hk (if_pos rfl)⟩
  ·obtain hij:i≠j:=fun e=>hz (x.ok.inj z y i (e▸h1) hy)
   rw [fi hij] at h2;obtain ⟨u',h3,h4⟩:=hx z j w h1 h2;refine ⟨u',h3,?_⟩;exact h4.to (fun e=>(if_neg hz).trans e) fun _ e i=>i.sameBut hs (nc _ (List.mem_of_lookup_eq_some' e))
 ·obtain ⟨v,hv⟩:=x.cl z hz c hc
  exact ⟨v,hv.sameBut hs (nc _ (List.mem_of_lookup_eq_some' hc))⟩
 ·by_cases hq':q=C.env.locals
  ·subst hq';obtain ⟨o,_,_,e,_⟩:=hn;exact ⟨o,e⟩
  ·obtain ⟨o,e⟩:=x.pal q hq;exact ⟨o,(hs.2 q hq').trans e⟩
 ·obtain nb:b≠C.env.locals:=fun q=>n' (q▸ .head _)
  exact (hs.2 b nb).trans (x.keep b o e n n' n2)
end
end
section
variable {A:jx}{B:Heap}{E:ak→az→Prop}{G:Prop}{K:PV→St→Prop}{T σ τ:List Addr}{s s':az}{st:St}{t:Tok}{α β:Type}
abbrev Cx.M (C:Cx):pd:=model pw C.w
inductive aO (C:Cx) (B:Heap) (T:List Addr) {α β:Type} (R:List Addr→β→α→Prop) (σ:List Addr) (K:β→St→Prop) (a:α) (s':az):Prop
 |mk (τ:List Addr) (b:β) (st':St):R (σ++τ) b a→Mt C B T (σ++τ) st' s'→K b st'→aO C B T R σ K a s'
theorem aO.up {C:Cx} {R:List Addr→β→α→Prop} {K:β→St→Prop} {a:α} (h:aO C B T R (σ++τ) K a s'):aO C B T R σ K a s':=by obtain ⟨τ',b,st',h1,h2,h3⟩:=h;rw [aa] at h1 h2;exact ⟨_,b,st',h1,h2,h3⟩
theorem aO.now {C:Cx} {R:List Addr→β→α→Prop} {K:β→St→Prop} {a:α} {b:β} (hR:R σ b a) (x:Mt C B T σ st s') (hK:K b st):aO C B T R σ K a s':=
 ⟨[],b,st,by rwa [be],by rwa [be],hK⟩
theorem aO.int {C:Cx} {i:Int} (x:Mt C B T σ st s') (h:K (.int i) st):aO C B T VR σ K (.int i t) s':=aO.now (b:= .int i) ⟨t,rfl⟩ x h
theorem aO.str {C:Cx} {i:Str} (x:Mt C B T σ st s') (h:K (.str i) st):aO C B T VR σ K (.str i t) s':=aO.now (b:= .str i) ⟨t,rfl⟩ x h
theorem aO.bool {C:Cx} {i:Bool} (x:Mt C B T σ st s') (h:K (.bool i) st):aO C B T VR σ K (.bool i) s':=aO.now (b:= .bool i) rfl x h
theorem aO.none {C:Cx} (x:Mt C B T σ st s') (h:K .none st):aO C B T VR σ K .none s':=aO.now (b:= .none) rfl x h
inductive Fl where
 |next|brk|cont|ret (p:PV)
theorem neFl:Nonempty Fl:=⟨.next⟩
def FR (σ:List Addr):Fl→Flow→Prop
 | .next,f=>f= .next
 | .brk,f=>f= .brk
 | .cont,f=>f= .cont
 | .ret p,f=> ∃v,f= .ret v∧VR σ p v
def BR (_:List Addr) (b a:Bool):Prop:=b=a
def WE (C:Cx) (e:dh) (st:St) (K:PV→St→Prop):Prop:= ∀B T σ s,Mt C B T σ st s→bx C.M C.A (eval e C.env) (aO C B T VR σ K) C.E s
def WT (C:Cx) (e:dh) (st:St) (K:Bool→St→Prop):Prop:= ∀B T σ s,Mt C B T σ st s→bx C.M C.A (isTrue e C.env (eval e C.env)) (aO C B T BR σ K) C.E s
def WS (C:Cx) (b:List iy) (st:St) (K:Fl→St→Prop):Prop:= ∀B T σ s,Mt C B T σ st s→bx C.M C.A (execs b C.env) (aO C B T FR σ K) C.E s
def W1 (C:Cx) (b:iy) (st:St) (K:Fl→St→Prop):Prop:= ∀B T σ s,Mt C B T σ st s→bx C.M C.A (exec b C.env) (aO C B T FR σ K) C.E s
def WA (C:Cx) (pos:Pos) (es:List dh) (st:St) (K:List PV→St→Prop):Prop:= ∀B T σ s,Mt C B T σ st s→bx C.M C.A (spliced (backTo pos (b0 es C.env))) (aO C B T cF σ K) C.E s
def P1 (C:Cx) (f:ak→Sem ak) (p:PV) (st:St) (K:PV→St→Prop):Prop:= ∀B T σ s v,Mt C B T σ st s→VR σ p v→bx C.M C.A (f v) (aO C B T VR σ K) C.E s
def P2 (C:Cx) (f:ak→ak→Sem ak) (p q:PV) (st:St) (K:PV→St→Prop):Prop:= ∀B T σ s v u,Mt C B T σ st s→VR σ p v→VR σ q u→bx C.M C.A (f v u) (aO C B T VR σ K) C.E s
def PT (C:Cx) (p:PV) (st:St) (K:Bool→St→Prop):Prop:= ∀B T σ s v,Mt C B T σ st s→VR σ p v→bx C.M C.A (truthy v) (aO C B T BR σ K) C.E s
def PC (C:Cx) (f:ak) (ps:List PV) (st:St) (K:PV→St→Prop):Prop:= ∀B T σ s vs,Mt C B T σ st s→cF σ ps vs→bx C.M C.A (call f vs) (aO C B T VR σ K) C.E s
abbrev Rp (f:ak→ak→Sem ak) (C:Cx) (K:PV→St→Prop) (p q:PV) (st:St):Prop:=P2 C f p q st K
abbrev Kl (r:dh) (f:ak→ak→Sem ak) (C:Cx) (K:PV→St→Prop) (p:PV) (st:St):Prop:=WE C r st (Rp f C K p)
abbrev Ry (f:ak→Sem ak) (C:Cx) (K:PV→St→Prop) (p:PV) (st:St):Prop:=P1 C f p st K
abbrev Rm (b o:dh) (C:Cx) (K:PV→St→Prop) (c:Bool) (st:St):Prop:=if c=true then WE C b st K else WE C o st K
abbrev Qq (C:Cx) (K:Bool→St→Prop) (p:PV) (st:St):Prop:=PT C p st K
abbrev Qc (K:Bool→St→Prop) (b:Bool) (st:St):Prop:=K (!b) st
abbrev Pt (r:List dh) (pos:Pos) (C:Cx) (K:Bool→St→Prop) (b:Bool) (st:St):Prop:=if b=true then WT C (.BoolOp .And r pos) st K else K false st
abbrev Rs (r:List dh) (pos:Pos) (C:Cx) (K:Bool→St→Prop) (b:Bool) (st:St):Prop:=if b=true then K true st else WT C (.BoolOp .Or r pos) st K
abbrev Oi (K:List PV→St→Prop) (p:PV) (ps:List PV) (st:St):Prop:=K (p::ps) st
abbrev Pq (pos:Pos) (r:List dh) (C:Cx) (K:List PV→St→Prop) (p:PV) (st:St):Prop:=WA C pos r st (Oi K p)
abbrev Pz (r:List iy) (C:Cx) (K:Fl→St→Prop) (f:Fl) (st:St):Prop:=match f with| .next=>WS C r st K|f=>K f st
abbrev Pu (b o:List iy) (C:Cx) (K:Fl→St→Prop) (c:Bool) (st:St):Prop:=if c=true then WS C b st K else WS C o st K
abbrev Po (K:Fl→St→Prop) (p:PV) (st:St):Prop:=K (.ret p) st
abbrev Mn (i:Nat) (K:Fl→St→Prop) (p:PV) (st:St):Prop:=K .next {st with v:=st.v.set i (some p)}
abbrev Ng (K:Fl→St→Prop) (_:PV) (st:St):Prop:=K .next st
abbrev Rg (f:ak) (C:Cx) (K:PV→St→Prop) (ps:List PV) (st:St):Prop:=PC C f ps st K
theorem nn (h:(G→False)→False):G:=l9 h
theorem aO.el {C:Cx} {R:List Addr→β→α→Prop} {K:β→St→Prop} {a:α} (h:aO C B T R σ K a s) (k: ∀τ b st',R (σ++τ) b a→Mt C B T (σ++τ) st' s→K b st'→G):G:=
 let ⟨τ,b,st',h1,h2,h3⟩:=h;k τ b st' h1 h2 h3
theorem go {C:Cx} {M:pd} {m:Sem α} {R:List Addr→β→α→Prop} {K:β→St→Prop} {Q:α→az→Prop} (h:bx M A m (aO C B T R σ K) E s) (k: ∀a s1 τ b st1,R (σ++τ) b a→Mt C B T (σ++τ) st1 s1→K b st1→Q a s1):bx M A m Q E s:=
 bc h (fun a s1 r=>r.el (k a s1)) fun _ _ e=>e
theorem gH {C:Cx} {M:pd} {m:Sem α} {R:List Addr→β→α→Prop} {K:β→St→Prop} (h:bx M A m (aO C B T R (σ++τ) K) E s):bx M A m (aO C B T R σ K) E s:=bc h (fun _ _ r=>r.up) fun _ _ e=>e
theorem aO.el2 {C:Cx} {R:List Addr→β→α→Prop} {K K':β→St→Prop} {a:α} (h:aO C B T R σ (fun b st=>K b st∧K' b st) a s) (k: ∀τ b st',R (σ++τ) b a→Mt C B T (σ++τ) st' s→K b st'→K' b st'→G):G:=
 let ⟨τ,b,st',h1,h2,h3⟩:=h;k τ b st' h1 h2 h3.1 h3.2
section
variable {KA:List PV→St→Prop}{a b:Int}{e l r t:dh}{f:ak→ak→Sem ak}{i k:Nat}{op:Operator}{p' pos:Pos}{x:Str}
variable {C:Cx} {st:St} {K:PV→St→Prop} {KB:Bool→St→Prop} {KF:Fl→St→Prop}
theorem e_int {i:Int} (h:K (.int i) st):WE C (.Constant (.int i) k pos) st K:=fun B T σ s x=>wpAny_Constant_int (aO.int (x.tok _) h)
theorem e_str {i:Str} (h:K (.str i) st):WE C (.Constant (.str i) k pos) st K:=fun B T σ s x=>Calls.Constant_str (aO.str (x.tok _) h)
theorem e_bool {i:Bool} (h:K (.bool i) st):WE C (.Constant (.bool i) k pos) st K:=fun B T σ s x=>Constant_bool (aO.bool x h)
theorem e_none (h:K .none st):WE C (.Constant .none k pos) st K:=fun B T σ s x=>Constant_none (aO.none x h)
theorem e_var {x:Str} {i:Nat} {v:PV} {pos:Pos} (hx:C.vis.lookup x=some i) (hv:st.v[i]? =some (some v)) (h:K v st)
  (hd:(x==("__debug__":Str))=false:=by decide) (hc:(x==("__classdict__":Str))=false:=by decide):WE C (.Name x pos) st K:=by
 walk_at "T C,st,K,x,i,v,pos hx hv h hd hc";walk_at "I B,T,σ,s y";refine aE (y.vars) fun m hm hvs=>?_;refine aE (hvs x i v hx hv) fun u h1 h2=>?_;refine wpAny_Name ?_ hd;have r:=aO.now h1 y h;cases h2 with
 |loc hk h2=>exact wpAny_loadName_local y.ok.kind hk hm h2 r
 |cell hk h3 h4=>
  rcases hk with hk|hk
  ·exact wpAny_loadName_cell y.ok.kind hk h3 h4 r
  ·exact wpAny_loadName_free y.ok.kind hk h3 h4 r hc
theorem e_bin (h:WE C l st (Kl r (binaryOp op) C K)):WE C (.BinOp l op r pos) st K:=fun B T σ s x=>by refine wpAny_BinOp (go (h B T σ s x) fun a s1 τ p st1 h1 h2 h3=>?_);refine go (h3 _ _ _ _ h2) fun b s2 τ' q st2 k1 k2 k3=>?_;exact gH (gH (k3 _ _ _ _ a b k2 h1.mono k1))
theorem e_un {op:UnaryOp} (h:WE C l st (Ry (unaryOp op) C K)):WE C (.UnaryOp op l pos) st K:=fun B T σ s x=>by refine UnaryOp_ (go (h B T σ s x) fun a s1 τ p st1 h1 h2 h3=>?_);exact gH (h3 _ _ _ _ a h2 h1)
theorem e_cmp {op:CmpOp} (h:WE C l st (Kl r (d0 op) C K)) (hm:behindInMarks op r=false:=by with_unfolding_all rfl):
  WE C (.Compare l [op] [r] pos) st K:=fun B T σ s x=>by
 refine wpAny_Compare1 (go (h B T σ s x) fun a s1 τ p st1 h1 h2 h3=>?_) hm;refine go (h3 _ _ _ _ h2) fun b s2 τ' q st2 k1 k2 k3=>?_;exact gH (gH (k3 _ _ _ _ a b k2 h1.mono k1))
theorem e_if {b o:dh} (h:WT C t st (Rm b o C K)):WE C (.IfExp t b o pos) st K:=fun B T σ s x=>by refine IfExp_ (go (h B T σ s x) fun a s1 τ c st1 h1 h2 h3=>?_);cases h1;split<;>rename_i hc<;>simp only [hc,if_true,if_false,bu] at h3<;>exact gH (h3 _ _ _ _ h2)
theorem t_cmp {op:CmpOp} (h:WE C l st (Kl r (d0 op) C (Qq C KB))) (hm:behindInMarks op r=false:=by with_unfolding_all rfl):
  WT C (.Compare l [op] [r] pos) st KB:=fun B T σ s x=>by
 refine wpAny_isTrue_Compare1 (go (h B T σ s x) fun a s1 τ p st1 h1 h2 h3=>?_) hm;refine go (h3 _ _ _ _ h2) fun b s2 τ' q st2 k1 k2 k3=>?_;refine go (k3 _ _ _ _ a b k2 h1.mono k1) fun c s3 τ'' r st3 l1 l2 l3=>?_;exact gH (gH (gH (l3 _ _ _ _ c l2 l1)))
theorem t_not (h:WT C e st (Qc KB)):WT C (.UnaryOp .Not e pos) st KB:=fun B T σ s x=>
 isTrue_not (go (h B T σ s x) fun a s1 τ c st1 h1 h2 h3=>⟨τ, !c,st1,congrArg _ h1,h2,h3⟩)
theorem t_and_nil (h:KB true st):WT C (.BoolOp .And [] pos) st KB:=fun B T σ s x=>isTrue_and_nil (aO.now rfl x h)
theorem t_or_nil (h:KB false st):WT C (.BoolOp .Or [] pos) st KB:=fun B T σ s x=>isTrue_or_nil (aO.now rfl x h)
theorem t_and {r:List dh} (h:WT C e st (Pt r pos C KB)):WT C (.BoolOp .And (e::r) pos) st KB:=fun B T σ s x=>by
 refine isTrue_and (go (h B T σ s x) fun a s1 τ c st1 h1 h2 h3=>?_);cases h1;split<;>rename_i hc<;>simp only [hc,if_true,if_false,bu] at h3
 ·exact gH (h3 _ _ _ _ h2)
 ·exact ⟨τ,false,st1,rfl,h2,h3⟩
theorem t_or {r:List dh} (h:WT C e st (Rs r pos C KB)):WT C (.BoolOp .Or (e::r) pos) st KB:=fun B T σ s x=>by
 refine isTrue_or (go (h B T σ s x) fun a s1 τ c st1 h1 h2 h3=>?_);cases h1;split<;>rename_i hc<;>simp only [hc,if_true,if_false,bu] at h3
 ·exact ⟨τ,true,st1,rfl,h2,h3⟩
 ·exact gH (h3 _ _ _ _ h2)
theorem cY (h:WE C e st (Qq C KB))
  (he: ∀env whole,isTrue e env whole=(do let v ←whole;standAt e.pos;holding [v] (truthy v)):=by intro _ _;rfl):WT C e st KB:=fun B T σ s x=>
 isTrue_plain (go (h B T σ s x) fun a s1 τ p st1 h1 h2 h3=>gH (h3 _ _ _ _ a h2 h1)) (he _ _)
theorem pt_bool {b:Bool} (h:KB b st):PT C (.bool b) st KB:=fun B T σ s v x hv=>by cases hv;exact wpAny_truthy_bool (aO.now rfl x h)
theorem pt_none (h:KB false st):PT C .none st KB:=fun B T σ s v x hv=>by cases hv;exact truthy_none (aO.now rfl x h)
theorem a_nil (h:KA [] st):WA C pos [] st KA:=fun B T σ s x=>spliced_none (aO.now .nil x h)
theorem a_cons {r:List dh} (h:WE C e st (Pq pos r C KA))
  (he:b0 (e::r) C.env=(false,eval e C.env)::b0 r C.env:=by rfl):WA C pos (e::r) st KA:=fun B T σ s x=>by
 refine spliced_more ?_ he;refine go (h B T σ s x) fun a s1 τ p st1 h1 h2 h3=>?_;refine go (h3 _ _ _ _ h2) fun b s2 τ' q st2 k1 k2 k3=>?_;rw [aa] at k1 k2;exact ⟨_,_,_, .cons (by rw [←aa];exact h1.mono) k1,k2,k3⟩
theorem s_nil (h:KF .next st):WS C [] st KF:=fun B T σ s x=>wpAny_execs_nil (aO.now (b:=Fl.next) rfl x h)
theorem s_cons {a:iy} {r:List iy} (h:W1 C a st (Pz r C KF)):WS C (a::r) st KF:=by
 walk_at "T C,st,KF,a,r h";walk_at "I B,T,σ,s x";refine wpAny_execs_cons (go (h B T σ s x) fun f s1 τ p st1 h1 h2 h3=>?_);cases p with
 |next=>cases h1;exact gH (h3 _ _ _ _ h2)
 |brk=>cases h1;exact ⟨τ, .brk,st1,rfl,h2,h3⟩
 |cont=>cases h1;exact ⟨τ, .cont,st1,rfl,h2,h3⟩
 |ret p=>obtain ⟨v,rfl,h4⟩:=h1;exact ⟨τ, .ret p,st1,⟨v,rfl,h4⟩,h2,h3⟩
theorem s_if {b o:List iy} (h:WT C t st (Pu b o C KF)):W1 C (.If t b o pos) st KF:=fun B T σ s x=>by refine wpAny_If (go (h B T σ s x) fun a s1 τ c st1 h1 h2 h3=>?_);cases h1;split<;>rename_i hc<;>simp only [hc,if_true,if_false,bu] at h3<;>exact gH (h3 _ _ _ _ h2)
theorem s_ret (h:WE C e st (Po KF)):W1 C (.Return (some e) pos) st KF:=fun B T σ s x=>
 wpAny_Return_some (go (h B T σ s x) fun a s1 τ p st1 h1 h2 h3=>⟨τ, .ret p,st1,⟨a,rfl,h1⟩,h2,h3⟩)
theorem zE {B:Heap} {T σ:List Addr} {s:az} {p:PV} {v:ak} {KU:Unit→St→Prop} (y:Mt C B T σ st s) (hx:C.vis.lookup x=some i) (hk:C.env.kindOf x=some .local) (hv:VR σ p v) (h:KU () {st with v:=st.v.set i (some p)}):
  bx C.M C.A (storeName C.env x v) (aO C B T (fun _ _ _=>True) σ KU) C.E s:=by
 refine aE (y.vars) fun m hm hvs=>?_;refine wpAny_storeName_local hk hm (fun h' hn hs=>?_) (by rw [y.ok.kind];rfl);exact aO.now trivial (y.setLocal _ hx hk hv hvs hn hs) h
theorem s_assign (h:WE C e st (Mn i KF)) (hx:C.vis.lookup x=some i) (hk:C.env.kindOf x=some .local)
  (hs:swapsWith e (some (.Name x p')) pos.line C.env=pure false:=by rfl):W1 C (.Assign [.Name x p'] e pos) st KF:=fun B T σ s y=>by
 refine wpAny_Assign_Name (go (h B T σ s y) fun a s1 τ p st1 h1 h2 h3=>?_) hs;exact go (zE (KU:=fun _=>KF .next) h2 hx hk h1 h3) fun _ s2 τ' _ st2 _ k2 k3=>by rw [aa] at k2;exact ⟨_, .next,st2,rfl,k2,k3⟩
theorem s_aug {v:PV} (hx:C.vis.lookup x=some i) (hk:C.env.kindOf x=some .local) (hv:st.v[i]? =some (some v))
  (h:WE C e st fun p st1=>P2 C (inplaceOp op) v p st1 (Mn i KF)):W1 C (.AugAssign (.Name x p') op e pos) st KF:=fun B T σ s y=>by
 refine aE (y.vars) fun m hm hvs=>?_;refine aE (hvs x i v hx hv) fun u h1 h2=>?_;replace h2:=h2.isLoc hk;refine wpAny_AugAssign_Name (wpAny_loadName_local y.ok.kind hk hm h2 ?_);refine go (h B T σ s y) fun a s1 τ p st1 k1 k2 k3=>?_;refine go (k3 _ _ _ _ u a k2 h1.mono k1) fun b s2 τ' r st2 l1 l2 l3=>?_;refine go (zE (KU:=fun _=>KF .next) l2 hx hk l1 l3) fun _ s3 τ'' _ st3 _ m2 m3=>?_;rw [aa,aa] at m2;exact ⟨_, .next,st3,rfl,m2,m3⟩
theorem P2.ii (h: ∀B T σ s t t',Mt C B T σ st s→bx C.M C.A (f (.int a t) (.int b t')) (aO C B T VR σ K) C.E s):P2 C f (.int a) (.int b) st K:=fun B T σ s v u x hv hu=>by obtain ⟨t,rfl⟩:=hv;obtain ⟨t',rfl⟩:=hu;exact h B T σ s t t' x
theorem P2.ss {a b:Str} (h: ∀B T σ s t t',Mt C B T σ st s→bx C.M C.A (f (.str a t) (.str b t')) (aO C B T VR σ K) C.E s):P2 C f (.str a) (.str b) st K:=fun B T σ s v u x hv hu=>by obtain ⟨t,rfl⟩:=hv;obtain ⟨t',rfl⟩:=hu;exact h B T σ s t t' x
theorem b_add (h:K (.int (a+b)) st):P2 C (binaryOp .Add) (.int a) (.int b) st K:=P2.ii fun B T σ s _ _ x=>by with_reducible exact add_int (aO.int (x.tok _) h)
theorem b_sub (h:K (.int (a - b)) st):P2 C (binaryOp .Sub) (.int a) (.int b) st K:=P2.ii fun B T σ s _ _ x=>by with_reducible exact sub_int (aO.int (x.tok _) h)
theorem b_mod (hb:b≠0) (h:K (.int (a.fmod b)) st):P2 C (binaryOp .Mod) (.int a) (.int b) st K:=P2.ii fun B T σ s _ _ x=>by with_reducible exact mod_int hb (aO.int (x.tok _) h)
theorem b_div (hb:b≠0) (hp:Builtin.divisionGoesByPylong a b=false) (h:K (.int (a.fdiv b)) st):P2 C (binaryOp .FloorDiv) (.int a) (.int b) st K:=P2.ii fun B T σ s _ _ x=>by with_reducible exact floordiv_int (hp:= .inl hp) hb (aO.int (x.tok _) h)
theorem Oa (hn:0≤b) (hn2:b≤1000000) (ha:a.natAbs<2^64) (h:K (.int (a^b.toNat)) st):P2 C (binaryOp .Pow) (.int a) (.int b) st K:=P2.ii fun B T σ s _ _ x=>by with_reducible exact pow_int_small hn hn2 ha (aO.int (x.tok _) h)
theorem gZ {a b:Str} (hz:a.length+b.length≤1000000) (h:K (.str (a++b)) st):P2 C (binaryOp .Add) (.str a) (.str b) st K:=P2.ss fun B T σ s _ _ x=>by with_reducible exact add_str (fun t' tk=>aO.str (x.tok _) h) (aq hz (by decide))
theorem i_add (h:K (.int (a+b)) st):P2 C (inplaceOp .Add) (.int a) (.int b) st K:=P2.ii fun B T σ s _ _ x=>by with_reducible exact iadd_int (aO.int (x.tok _) h)
theorem i_sub (h:K (.int (a - b)) st):P2 C (inplaceOp .Sub) (.int a) (.int b) st K:=P2.ii fun B T σ s _ _ x=>by with_reducible exact isub_int (aO.int (x.tok _) h)
theorem rI {a b:Str} (hz:a.length+b.length≤1000000) (h:K (.str (a++b)) st):P2 C (inplaceOp .Add) (.str a) (.str b) st K:=P2.ss fun B T σ s _ _ x=>by with_reducible exact iadd_str (fun t' tk=>aO.str (x.tok _) h) (aq hz (by decide))
theorem u_neg (h:K (.int (-a)) st):P1 C (unaryOp .USub) (.int a) st K:=fun B T σ s v x ⟨_,e⟩=>by subst e;with_reducible exact neg_int (aO.int (x.tok _) h)
theorem c_eq (h:K (.bool (a==b)) st):P2 C (d0 .Eq) (.int a) (.int b) st K:=P2.ii fun B T σ s _ _ x=>by with_reducible exact eq_int (aO.bool x h)
theorem c_ne (h:K (.bool (a != b)) st):P2 C (d0 .NotEq) (.int a) (.int b) st K:=P2.ii fun B T σ s _ _ x=>by with_reducible exact ne_int (aO.bool x h)
theorem c_lt (h:K (.bool (decide (a<b))) st):P2 C (d0 .Lt) (.int a) (.int b) st K:=P2.ii fun B T σ s _ _ x=>by with_reducible exact lt_int (aO.bool x h)
theorem c_gt (h:K (.bool (decide (b<a))) st):P2 C (d0 .Gt) (.int a) (.int b) st K:=P2.ii fun B T σ s _ _ x=>by with_reducible exact gt_int (aO.bool x h)
theorem c_le (h:K (.bool (decide (a≤b))) st):P2 C (d0 .LtE) (.int a) (.int b) st K:=P2.ii fun B T σ s _ _ x=>by with_reducible exact le_int (aO.bool x h)
theorem c_ge (h:K (.bool (decide (b≤a))) st):P2 C (d0 .GtE) (.int a) (.int b) st K:=P2.ii fun B T σ s _ _ x=>by with_reducible exact ge_int (aO.bool x h)
theorem c_eqs {a b:Str} (h:K (.bool (a==b)) st):P2 C (d0 .Eq) (.str a) (.str b) st K:=P2.ss fun B T σ s _ _ x=>by with_reducible exact eq_str (aO.bool x h)
theorem c_nes {a b:Str} (h:K (.bool (a != b)) st):P2 C (d0 .NotEq) (.str a) (.str b) st K:=P2.ss fun B T σ s _ _ x=>by with_reducible exact ne_str (aO.bool x h)
end
end
section
variable {n:Nat}{σ:List Addr}
def Cx.Quiet (C:Cx):Prop:=C.A.handled=none∧ ∀e s, ¬C.E e s
theorem Mt.off {C:Cx} {B:Heap} {T σ:List Addr} {st:St} {s:az} {I:Addr} {h':Heap} (x:Mt C B T σ st s) (t:Nat) (hs:pq I s.heap h') (hσ:I∉σ) (hp:I∉C.privs) (hB:B.get? I=none) (hF:I∉C.fs):
  Mt C B T σ st {s with heap:=h',toks:=t}:=by
 walk_at "T C,B,T,σ,st,s,I,h' x t, hs hσ hp hB hF";have k: ∀b o,b≠I→s.heap.get? b=some o→h'.get? b=some o:=fun b o n e=>hs b o n e;have nc: ∀c,(∃y,C.env.cells.lookup y=some c)→c≠I:=fun c ⟨y,e⟩ q=>hp (q▸ .tail _ (du (f:=nj) (List.mem_of_lookup_eq_some' e)));refine ⟨x.ok,x.top,x.hr.keep fun a ha=>?_,?_,fun y hy c hc=>?_,fun q hq=>?_,x.priv,fun b o e n n' n2=>?_,x.sub,x.pre,x.low,x.gens,x.drawn,x.os,x.fr.keepsF fun b o hb e=>k b o (fun z=>hF (z▸hb)) e⟩
 ·obtain ⟨i,hi,e⟩:=gw ha
  obtain ⟨o,ho,_⟩:=x.hr.at_ i a (st.h[i]'(x.hr.len▸hi)) (by rw [ae hi,e]) (ae _);rw [ho];exact k a o (fun q=>hσ (q▸ha)) ho
 ·refine aE (x.vars) fun m hm hv=>?_
  refine ⟨m,hm.at fun o=>k _ o fun q=>hp (q▸ .head _),fun y i v h1 h2=>?_⟩;refine aE (hv y i v h1 h2) fun u h3 h4=>?_;exact ⟨u,h3,h4.to id fun c e i=>i.imp fun o q=>⟨k c o (nc c ⟨y,e⟩) q.1,q.2⟩⟩
 ·refine cH (x.cl y hy c hc) fun v o e1 e2=>?_
  exact ⟨v,o,k c o (nc c ⟨y,hc⟩) e1,e2⟩
 ·obtain ⟨o,e⟩:=x.pal q hq
  exact ⟨o,k q o (fun z=>hp (z▸hq)) e⟩
 ·exact k b o (fun z=>by subst z;rw [hB] at e;cases e) (x.keep b o e n n' n2)
def PV.bd (n:Nat):PV→Prop
 | .ref i=>i<n
 |_=>True
def PO.bd (n:Nat):PO→Prop
 | .list xs=> ∀x∈xs,x.bd n
 | .tuple xs=> ∀x∈xs,x.bd n
 | .raw _ xs=> ∀x∈xs,x.bd n
 |_=>True
theorem VR.cut {p:PV} {v:ak} (h:VR σ p v) (b:p.bd n):VR (σ.take n) p v:=by
 cases p with
 |ref i=>obtain ⟨a,h1,h2⟩:=h;exact ⟨a,by rw [qt b];exact h1,h2⟩
 |_=>exact h
theorem cF.cut {ps:List PV} {vs:List ak} (h:cF σ ps vs) (b: ∀x∈ps,x.bd n):cF (σ.take n) ps vs:=by
 induction h with
 |nil=>exact .nil
 |cons a _ ih=>exact .cons (a.cut (b _ (.head _))) (ih fun x hx=>b x (.tail _ hx))
theorem OS.cut {p:PO} {o:Obj} (x:OS σ p o) (b:p.bd n):OS (σ.take n) p o:=by
 cases p with
 |list=>obtain ⟨vs,n,e,r⟩:=x;exact ⟨vs,n,e,r.cut b⟩
 |tuple=>obtain ⟨vs,n,e,r⟩:=x;exact ⟨vs,n,e,r.cut b⟩
 |range=>exact x
 |junk=>trivial
 |raw=>obtain ⟨vs,e,r⟩:=x;exact ⟨vs,e,r.cut b⟩
theorem HR.cut {H:List PO} {h:Heap} (x:HR σ H h) (n:Nat) (hb: ∀i o,i<n→H[i]? =some o→o.bd n):HR (σ.take n) (H.take n) h:=by
 refine ⟨by simp [x.len],x.nd.sublist (List.take_sublist _ _),fun i a o e f=>?_⟩;rw [List.getElem?_take] at e f;split at e
 ·rename_i hi
  rw [if_pos hi] at f;obtain ⟨ob,h1,h2⟩:=x.at_ i a o e f;exact ⟨ob,h1,h2.cut (hb i o hi f)⟩
 ·cases e
inductive Gc (C:Cx) (m:Nat) (P:St→Prop) (st:St):Prop
 |inl (h:P st):Gc C m P st
 |inr (n:Nat) (v':List (Option PV)) (h1:m≤n) (h2: ∀z i w,C.vis.lookup z=some i→v'[i]? =some (some w)→st.v[i]? =some (some w)∧(n<st.h.length→w.bd n))
  (h3: ∀i o,n<st.h.length→i<n→st.h[i]? =some o→o.bd n) (h4:P ⟨v',st.h.take n⟩):Gc C m P st
inductive Mf (n:Nat) (I:Nat→St→Prop) (st:St):Prop
 |mk (m:Nat) (h:m<n) (i:I m st):Mf n I st
theorem Mt.gc {C:Cx} {B:Heap} {T σ τ:List Addr} {st:St} {s:az} {P:St→Prop} (x:Mt C B T (σ++τ) st s) (hT:T <+: σ) (h:Gc C σ.length P st): ∃τ' st',Mt C B T (σ++τ') st' s∧P st'∧ ∀a∈σ++τ',a∈σ++τ:=by
 walk_at "T C,B,T,σ,τ,st,s,P x hT h";rcases h with h|⟨n,v',hn,hv,hh,hP⟩
 ·exact ⟨τ,st,x,h,fun _ h=>h⟩
 ·by_cases hl:n<st.h.length
  ·have e:σ++τ.take (n - σ.length)=(σ++τ).take n:=by rw [List.take_append,cf hn]
   have hsub: ∀a∈σ++τ.take (n - σ.length),a∈σ++τ:=fun a ha=>lz (e▸ha);refine ⟨τ.take (n - σ.length),⟨v',st.h.take n⟩,?_,hP,hsub⟩;refine ⟨x.ok,x.top,e▸x.hr.cut n (fun i o=>hh i o hl),?_,x.cl,x.pal,fun p hp hm=>x.priv p hp (hsub p hm),x.keep,fun a ha=>x.sub a (hsub a ha),hT.trans (dj _ _),fun a ha=>x.low a (hsub a ha),x.gens,x.drawn,x.os,x.fr.sub hsub⟩;refine aE (x.vars) fun m hm hvs=>?_;refine ⟨m,hm,fun z i w h1 h2=>?_⟩;obtain ⟨h3,h4⟩:=hv z i w h1 h2;refine aE (hvs z i w h1 h3) fun u h5 h6=>?_;exact ⟨u,e▸h5.cut (h4 hl),h6⟩
  ·rw [cf (po hl)] at hP
   refine ⟨τ,⟨v',st.h⟩,?_,hP,fun _ h=>h⟩;refine ⟨x.ok,x.top,x.hr,?_,x.cl,x.pal,x.priv,x.keep,x.sub,x.pre,x.low,x.gens,x.drawn,x.os,x.fr⟩;refine aE (x.vars) fun m hm hvs=>?_;exact ⟨m,hm,fun z i w h1 h2=>hvs z i w h1 (hv z i w h1 h2).1⟩
structure It (C:Cx) (σ₀:List Addr) (I:Addr) (nx:Nat→List PO→Option (Option PV)) (R:Nat→Obj→Prop):Prop where
 item: ∀k σ H (s:az) p o (Q:Option ak→az→Prop) (E:ak→az→Prop),HR σ H s.heap→σ₀ <+: σ→s.heap.get? I=some o→R k o→nx k H=some (some p)→
  (∀v h' t o',VR σ p v→pq I s.heap h'→h'.get? I=some o'→R (k+1) o'→Q (some v) {s with heap:=h',toks:=t})→bx C.M C.A (pyNext (.ref I)) Q E s
 done: ∀k σ H (s:az) o (Q:Option ak→az→Prop) (E:ak→az→Prop),HR σ H s.heap→σ₀ <+: σ→s.heap.get? I=some o→R k o→nx k H=some none→
  (∀h' t,pq I s.heap h'→Q none {s with heap:=h',toks:=t})→bx C.M C.A (pyNext (.ref I)) Q E s
 again: ∀k (s:az) o (Q:ak→az→Prop) (E:ak→az→Prop),s.heap.get? I=some o→R k o→Q (.ref I) s→bx C.M C.A (pyIter (.ref I)) Q E s
def PI (C:Cx) (p:PV) (st:St) (nx:Nat→List PO→Option (Option PV)):Prop:= ∀B T σ s v (Q:ak→az→Prop),Mt C B T σ st s→VR σ p v→
 (∀o R,o.isFreed=false→It C σ s.heap.objs.size nx R→R 0 o→Q (.ref s.heap.objs.size) {s with heap:=s.heap.push o})→bx C.M C.A (pyIter v) Q C.E s
def tJ (C:Cx) (iter:dh) (st:St) (K:(Nat→List PO→Option (Option PV))→St→Prop):Prop:= ∀B T σ s (Q:ak→az→Prop) (E1 E2:ak→az→Prop),Mt C B T σ st s→
 (∀τ st1 s1 o R nx,Mt C B T (σ++τ) st1 s1→K nx st1→o.isFreed=false→It C (σ++τ) s1.heap.objs.size nx R→R 0 o→Q (.ref s1.heap.objs.size) {s1 with heap:=s1.heap.push o})→
 bx C.M C.A (eval iter C.env) (fun x s'=>bx C.M C.A (pyIter x) Q E2 s') E1 s
inductive Nw (C:Cx) (K:(Nat→List PO→Option (Option PV))→St→Prop) (p:PV) (st:St):Prop
 |mk (nx:Nat→List PO→Option (Option PV)) (h:PI C p st nx) (k:K nx st):Nw C K p st
theorem cT {C:Cx} {iter:dh} {st:St} {K:(Nat→List PO→Option (Option PV))→St→Prop} (hq:C.Quiet) (h:WE C iter st (Nw C K)):tJ C iter st K:=fun B T σ s Q E1 E2 x hQ=>by refine bc (h _ _ _ _ x) (fun v s1 hzz=>hzz.el fun τ p st1 h1 h2 hzy=>?_) fun e s' he=>(hq.2 e s' he).elim;obtain ⟨nx,hPI,hK⟩:=hzy;exact bc (hPI _ _ _ _ _ _ h2 h1 fun o R hf hIt hR=>hQ τ st1 s1 o R nx h2 hK hf hIt hR) (fun _ _ q=>q) fun e s' he=>(hq.2 e s' he).elim
def PA (C:Cx) (t:dh) (p:PV) (st:St) (K:St→Prop):Prop:= ∀B T σ s v,Mt C B T σ st s→VR σ p v→bx C.M C.A (assign t C.env v) (aO C B T (fun _ (_:Unit) (_:Unit)=>True) σ fun _=>K) C.E s
section
variable {C:Cx} {st:St} {K:PV→St→Prop} {KB:Bool→St→Prop} {KF:Fl→St→Prop}
theorem pa_name {x:Str} {i:Nat} {p:PV} {px:Pos} {KS:St→Prop} (hx:C.vis.lookup x=some i) (hk:C.env.kindOf x=some .local) (h:KS {st with v:=st.v.set i (some p)}):PA C (.Name x px) p st KS:=fun B T σ s v y hv=>
 wpAny_assign_Name (zE (KU:=fun _=>KS) y hx hk hv h)
theorem iG {st0:St} {t:dh} {b o:List iy} {pos:Pos} (hq:C.Quiet) (I:Nat→St→Prop) (n:Nat) (h0:I n st0)
  (turn: ∀n st,I n st→WT C t st fun c st1=>if c=true then WS C b st1 (fun f st2=>match f with| .next| .cont=>Gc C st0.h.length (Mf n I) st2| .brk=>KF .next st2| .ret p=>KF (.ret p) st2) else WS C o st1 KF):
  W1 C (.While t b o pos) st0 KF:=by
 walk_at "T C,KF,st0,t,b,o,pos hq I,n h0 turn";walk_at "I B,T,σ,s x";have hlen:=x.hr.len;refine wpAny_While (codeAny_whileLoop (fun n s=> ∃τ st,Mt C B T (σ++τ) st s∧I n st) ?_ n ⟨[],st0,by rwa [be],h0⟩);walk_at "I n,s hr117a";walk_at "E hr117a : τ,st y hI";refine bc (turn n st hI _ _ _ _ y) ?_ fun e s' he=>(hq.2 e s' he).elim;walk_at "I c,s1 hrz";refine hrz.el ?_;walk_at "I τ1,c',st1 h1 h2 h3";cases h1;split<;>rename_i hc<;>simp only [hc,if_true,if_false,bu] at h3
 ·refine bc (h3 _ _ _ _ h2) ?_ fun e s' he=>(hq.2 e s' he).elim
  walk_at "I f,s2 hrz";refine hrz.el ?_;walk_at "I τ2,f',st2 k1 k2 k3";rw [aa,aa] at k1 k2;cases f' with
  |next=>cases k1;obtain ⟨τ',st',z,⟨m,hm,k3⟩,_⟩:=k2.gc x.pre (hlen▸k3);exact ⟨m,hm,_,st',z,k3⟩
  |cont=>cases k1;obtain ⟨τ',st',z,⟨m,hm,k3⟩,_⟩:=k2.gc x.pre (hlen▸k3);exact ⟨m,hm,_,st',z,k3⟩
  |brk=>cases k1;exact ⟨_, .next,st2,rfl,k2,k3⟩
  |ret p=>obtain ⟨v,rfl,k4⟩:=k1;exact ⟨_, .ret p,st2,⟨v,rfl,k4⟩,k2,k3⟩
 ·refine bc (h3 _ _ _ _ h2) (fun f s2 r=>?_) fun e s' he=>(hq.2 e s' he).elim
  exact r.up.up
abbrev Dq (C:Cx) (n:Nat) (P:St→Prop) (KF:Fl→St→Prop) (f:Fl) (st:St):Prop:=match f with| .next| .cont=>Gc C n P st| .brk=>KF .next st| .ret r=>KF (.ret r) st
inductive Jk (target:dh) (body:List iy) (C:Cx) (KF:Fl→St→Prop) (nx:Nat→List PO→Option (Option PV)) (st1:St):Prop
 |mk (Inv:Nat→St→Prop) (N:Nat):Inv 0 st1→(∀k st2 q,Inv k st2→nx k st2.h=some (some q)→k<N)→
   (∀k st2 q,Inv k st2→nx k st2.h=some (some q)→PA C target q st2 fun st3=>WS C body st3 (Dq C st1.h.length (Inv (k+1)) KF))→
   (∀k st2,Inv k st2→nx k st2.h≠none)→(∀k st2,Inv k st2→nx k st2.h=some none→KF .next st2)→Jk target body C KF nx st1
theorem vP {target:dh} {body:List iy} (hq:C.Quiet) {B:Heap} {T σ τ1:List Addr} {st1:St} {s1:az} {o:Obj} {R:Nat→Obj→Prop} {nx:Nat→List PO→Option (Option PV)}
  (h2:Mt C B T (σ++τ1) st1 s1) (hf:o.isFreed=false) (hIt:It C (σ++τ1) s1.heap.objs.size nx R) (hR:R 0 o) (Inv:Nat→St→Prop) (N:Nat) (hI0:Inv 0 st1) (hN: ∀k st2 q,Inv k st2→nx k st2.h=some (some q)→k<N)
  (turn: ∀k st2 q,Inv k st2→nx k st2.h=some (some q)→PA C target q st2 fun st3=>WS C body st3 (Dq C st1.h.length (Inv (k+1)) KF)) (ok: ∀k st2,Inv k st2→nx k st2.h≠none) (done: ∀k st2,Inv k st2→nx k st2.h=some none→KF .next st2)
  (own: ∀k st2 q v s' o' (Q:Unit→az→Prop) E',Inv k st2→nx k st2.h=some (some q)→(∃σ',VR σ' q v)→s'.heap.get? s1.heap.objs.size=some o'→R (k+1) o'→Q () s'→bx C.M C.A (d9 target (.ref s1.heap.objs.size) v) Q E' s'):
  rj C.M C.A (.forLoop target (.ref s1.heap.objs.size) body [] C.env) (fun r s'=>match r with| .ok f=>aO C B T FR σ KF f s'| .error e=>cameBackBy C.M C.A C.env C.E e s') {s1 with heap:=s1.heap.push o}:=by
 walk_at "T C,KF,target,body hq B,T,σ,τ1,st1,s1,o,R,nx h2 hf hIt hR Inv,N hI0 hN turn ok done own";obtain y:=h2.junk o;have hml':(σ++τ1).length=st1.h.length:=h2.hr.len;generalize hIdef:s1.heap.objs.size=I at*;have hIσ:I∉σ++τ1:=fun hm=>ci _ (hIdef▸h2.hr.lt I hm);have hIp:I∉C.privs:=fun hm=>let ⟨o',e⟩:=h2.pal I hm;ci _ (hIdef▸dc e);obtain hIT:I∉T:=fun hm=>hIσ (h2.pre.subset hm);have hIB:B.get? I=none:=h2.fresh I (dg hIdef) hIT;obtain hIo:(s1.heap.push o).get? I=some o:=hIdef▸b9 _ hf;have hIF:I∉C.fs:=h2.fr.fresh (dg hIdef);refine PySem.codeAny_forLoop_any (fun n s=> ∃k τ st o,Mt C B T (σ++τ1++τ) st s∧Inv k st∧s.heap.get? I=some o∧R k o∧I∉σ++τ1++τ∧(n+k=N+1∨(n=0∧N<k))) ?_ (N+1) ⟨0,[],st1,o,by rw [be];exact y,hI0,hIo,hR,by rw [be];exact hIσ, .inl rfl⟩
 rintro n s2 hinv
 refine zY (hinv) fun k τ st2 o2 z hI hIo2 hR2 hIσ2 hm=>?_
 match hn:nx k st2.h with
 |none=>exact absurd hn (ok k st2 hI)
 |some none=>refine hIt.done k _ _ s2 o2 _ _ z.hr (dj _ _) hIo2 hR2 hn fun h' t hx=>?_;refine wpAny_execs_nil ?_;have z':=z.off t hx hIσ2 hIp hIB hIF;rw [aa] at z';exact ⟨_, .next,st2,rfl,z',done k st2 hI hn⟩
 |some (some q)=>
  have hkN:=hN k st2 q hI hn;refine hIt.item k _ _ s2 q o2 _ _ z.hr (dj _ _) hIo2 hR2 hn fun v' h' t o' hv hx ho' hR'=>?_;have z':=z.off t hx hIσ2 hIp hIB hIF;obtain zr:=z'.rebase;refine own k st2 q v' _ o' _ _ hI hn ⟨_,hv⟩ ho' hR' ?_;refine bc (turn k st2 q hI hn _ _ _ _ _ zr hv) (fun _ s3 hrz=>hrz.el fun τ3 _ st3 _ k2 k3=>?_) fun e s' he=>(hq.2 e s' he).elim;have io3:s3.heap.get? I=some o':=k2.keep I o' ho' hIσ2 (fun hw=>hIp (bZ hw)) hIF;have iσ3:I∉σ++τ1++τ++τ3:=fun hm=>by have:=k2.sub I hm hIσ2;rw [ho'] at this;cases this
  have k2':=z'.trans k2;refine bc (k3 _ _ _ _ k2'.rebase) (fun f s4 hrz=>hrz.el fun τ4 f' st4 l1 l2 l3=>?_) fun e s' he=>(hq.2 e s' he).elim;have io4:s4.heap.get? I=some o':=l2.keep I o' io3 iσ3 (fun hw=>hIp (bZ hw)) hIF;have iσ4:I∉σ++τ1++τ++τ3++τ4:=fun hm=>by have:=l2.sub I hm iσ3;rw [io3] at this;cases this
  have l2':=k2'.trans l2;have e4:σ++τ1++(τ++(τ3++τ4))=σ++τ1++τ++τ3++τ4:=by rw [vS]
  cases f' with
  |next=>cases l1;refine fW (Mt.gc (σ:=σ++τ1) (τ:=τ++(τ3++τ4)) (e4▸l2') h2.pre (hml'▸l3)) fun τ' st' z5 k5 hsub=>?_;refine ⟨N - k,by (exact aW 0x131ac41d66620d0081d141405421cc22 0x42000020004000840100001 [_,_,_] hm hkN),k+1,τ',st',o',z5,k5,io4,hR',fun hm=>iσ4 (e4▸hsub I hm), .inl (by (exact aQ 0xa28280a941409620cc22 0x80200840008001 [_,_] hkN))⟩
  |cont=>cases l1;refine fW (Mt.gc (σ:=σ++τ1) (τ:=τ++(τ3++τ4)) (e4▸l2') h2.pre (hml'▸l3)) fun τ' st' z5 k5 hsub=>?_;refine ⟨N - k,by (exact aW 0x131ac41d66620d0081d141405421cc22 0x42000020004000840100001 [_,_,_] hm hkN),k+1,τ',st',o',z5,k5,io4,hR',fun hm=>iσ4 (e4▸hsub I hm), .inl (by (exact aQ 0xa28280a941409620cc22 0x80200840008001 [_,_] hkN))⟩
  |brk=>cases l1;exact ⟨τ1++(τ++(τ3++τ4)), .next,st4,rfl,by simpa only [aa] using l2',l3⟩
  |ret p=>obtain ⟨v,rfl,l4⟩:=l1;exact ⟨τ1++(τ++(τ3++τ4)), .ret p,st4,⟨v,rfl,by simpa only [aa] using l4⟩,by simpa only [aa] using l2',l3⟩
theorem hV {target iter:dh} {body:List iy} {pos:Pos} (hq:C.Quiet)
  (h:tJ C iter st (Jk target body C KF))
  (hs: ∀env x,dz iter env x=pure x:=by intro _ _;rfl) (ht: ∀it v,d9 target it v=pure ():=by intro _ _;rfl):
  W1 C (.For target iter body [] pos) st KF:=fun B T σ s x=>by
 refine wpAny_For (h _ _ _ _ _ _ _ x fun τ1 st1 s1 o R nx h2 hK hf hIt hR=>?_) (hs _);obtain ⟨Inv,N,hI0,hN,turn,ok,done⟩:=hK;exact vP hq h2 hf hIt hR Inv N hI0 hN turn ok done fun k st2 q v s' o' Q E' _ _ _ _ _ hQ=>dy (ht _ v) hQ
end
end
section
section
variable {H:List PO}{a:Addr}{h:Heap}{i k n:Nat}{r:Option PV}{vs:List ak}{xs:List PV}{σ:List Addr}
variable {C:Cx} {st:St} {K:PV→St→Prop} {KB:Bool→St→Prop} {KF:Fl→St→Prop}
theorem HR.obj (x:HR σ H h) {p:PO} (ha:σ[i]? =some a) (hp:H[i]? =some p):OR σ h a p:=x.at_ i a p ha hp
theorem Mt.list {B:Heap} {T:List Addr} {s:az} (x:Mt C B T σ st s) (ha:σ[i]? =some a) (hp:st.h[i]? =some (.list xs)): ∃vs n,s.heap.get? a=some (listOf vs.toArray n)∧cF σ xs vs:=by obtain ⟨o,e,vs,n,rfl,r⟩:=x.hr.obj ha hp;exact ⟨vs,n,e,r⟩
theorem Mt.tuple {B:Heap} {T σ:List Addr} {s:az} (x:Mt C B T σ st s) {i:Nat} {a:Addr} {xs:List PV} (ha:σ[i]? =some a) (hp:st.h[i]? =some (.tuple xs)): ∃vs n,s.heap.get? a=some {cls:= .type "tuple",data:= .seq vs.toArray n}∧cF σ xs vs:=by obtain ⟨o,e,vs,n,rfl,r⟩:=x.hr.obj ha hp;exact ⟨vs,n,e,r⟩
theorem HR.list (x:HR σ H h) (ha:σ[i]? =some a) (hp:H[i]? =some (.list xs)): ∃vs n,h.get? a=some (listOf vs.toArray n)∧cF σ xs vs:=by obtain ⟨o,e,vs,n,rfl,r⟩:=x.obj ha hp;exact ⟨vs,n,e,r⟩
theorem HR.tuple {σ:List Addr} {H:List PO} {h:Heap} (x:HR σ H h) {i:Nat} {a:Addr} {xs:List PV} (ha:σ[i]? =some a) (hp:H[i]? =some (.tuple xs)): ∃vs n,h.get? a=some {cls:= .type "tuple",data:= .seq vs.toArray n}∧cF σ xs vs:=by obtain ⟨o,e,vs,n,rfl,r⟩:=x.obj ha hp;exact ⟨vs,n,e,r⟩
theorem aN (e:h.get? a=some (listOf vs.toArray n)):h.IsList a vs.toArray:=⟨_,e,rfl,n,rfl⟩
theorem eW (e:h.get? a=some {cls:= .type "tuple",data:= .seq vs.toArray n}):h.IsTuple a vs.toArray:=⟨_,e,rfl,n,rfl⟩
theorem cF.none {σ:List Addr} {ps:List PV} {vs:List ak} (h:cF σ ps vs) {i:Nat} (e:ps[i]? =none):vs[i]? =none:=by rw [bz] at *; rw [h.length];exact e
theorem dE {τ:List Addr} (h:σ <+: τ) (e:σ[i]? =some a):τ[i]? =some a:=by obtain ⟨r,rfl⟩:=h;rw [bh (af.mp e).1];exact e
theorem Df {m:Nat} (h:n≤m) (k:m<9223372036854775808:=by decide):(n:Int)<2^63:=Int.lt_of_lt_of_le (lh.mpr (co h k)) (by decide)
def iS (i:Nat) (k:Nat) (H:List PO):Option (Option PV):=match H[i]? with
 |some (.list xs)=>some xs[k]?
 |_=>none
theorem dU (h:iS i k H=some r): ∃xs,H[i]? =some (.list xs)∧xs[k]? =r:=by
 delta iS at h;cases e:H[i]? with
 |none=>rw [e] at h;cases h
 |some o=>rw [e] at h;cases o with
  |list xs=>exact ⟨xs,rfl,ba h⟩
  |_=>cases h
theorem cN (hq:C.Quiet) (hp:st.h[i]? =some (.list xs)):PI C (.ref i) st (iS i):=fun B T σ s v Q x hv h=>by
 refine aE (hv) fun a ha qz2=>?_;subst qz2;refine cH (x.list ha hp) fun vs n e _=>?_;refine wpAny_pyIter_list (aN e) (h _ (fun k o=>o.cls= .type "list_iterator"∧o.data= .fields #[.ref a, .int k 0]) rfl ⟨?_,?_,?_⟩ ⟨rfl,rfl⟩)
 ·rintro k σ' H' s' p o Q E x' hpre ho hR hn hQ
  refine aE (dU hn) fun xs' h1 h2=>?_;refine cH (x'.list (dE hpre ha) h1) fun us m e' r=>?_;refine aE (r.get h2) fun u hu hr=>?_;refine wpAny_pyNext_list_item ⟨_,ho,hR.1,hR.2⟩ (aN e') (x:=u) (by simpa using hu) fun h' hit hs=>?_;refine nN (hit) fun o' h3 h4 h5=>?_;exact hQ u h' _ o' hr hs.extBut h3 ⟨h4,h5⟩
 ·rintro k σ' H' s' o Q E x' hpre ho hR hn hQ
  refine aE (dU hn) fun xs' h1 h2=>?_;refine cH (x'.list (dE hpre ha) h1) fun us m e' r=>?_;exact wpAny_pyNext_list_end hq.1 ⟨_,ho,hR.1,hR.2⟩ (aN e') (by simpa using r.none h2) fun h' hx=>hQ h' _ hx
 ·rintro k s' o Q E ho hR hQ
  exact wpAny_pyIter_listiter ⟨_,ho,hR.1,hR.2⟩ hQ
def Iq (i:Nat) (k:Nat) (H:List PO):Option (Option PV):=match H[i]? with
 |some (.tuple xs)=>some xs[k]?
 |_=>none
theorem bX (h:Iq i k H=some r): ∃xs,H[i]? =some (.tuple xs)∧xs[k]? =r:=by
 delta Iq at h;cases e:H[i]? with
 |none=>rw [e] at h;cases h
 |some o=>rw [e] at h;cases o with
  |tuple xs=>exact ⟨xs,rfl,ba h⟩
  |_=>cases h
theorem jD (hq:C.Quiet) (hp:st.h[i]? =some (.tuple xs)):PI C (.ref i) st (Iq i):=fun B T σ s v Q x hv h=>by
 refine aE (hv) fun a ha qz2=>?_;subst qz2;refine cH (x.tuple ha hp) fun vs n e _=>?_;refine wpAny_pyIter_tuple (eW e) (h _ (fun k o=>o.cls= .type "tuple_iterator"∧o.data= .fields #[.ref a, .int k 0]) rfl ⟨?_,?_,?_⟩ ⟨rfl,rfl⟩)
 ·rintro k σ' H' s' p o Q E x' hpre ho hR hn hQ
  refine aE (bX hn) fun xs' h1 h2=>?_;refine cH (x'.tuple (dE hpre ha) h1) fun us m e' r=>?_;refine aE (r.get h2) fun u hu hr=>?_;refine wpAny_pyNext_tuple_item ⟨_,ho,hR.1,hR.2⟩ (eW e') (x:=u) (by simpa using hu) fun h' hit hs=>?_;refine nN (hit) fun o' h3 h4 h5=>?_;exact hQ u h' _ o' hr hs.extBut h3 ⟨h4,h5⟩
 ·rintro k σ' H' s' o Q E x' hpre ho hR hn hQ
  refine aE (bX hn) fun xs' h1 h2=>?_;refine cH (x'.tuple (dE hpre ha) h1) fun us m e' r=>?_;exact wpAny_pyNext_tuple_end hq.1 ⟨_,ho,hR.1,hR.2⟩ (eW e') (by simpa using r.none h2) fun h' hx=>hQ h' _ hx
 ·rintro k s' o Q E ho hR hQ
  exact wpAny_pyIter_tupleiter ⟨_,ho,hR.1,hR.2⟩ hQ
def dO (c:Nat):Str:=⟨#[c]⟩
def Nv (x:Str) (k:Nat) (_:List PO):Option (Option PV):=some (x.cps.toList[k]?.map fun c=> .str (dO c))
theorem Li {x:Str} (hq:C.Quiet):PI C (.str x) st (Nv x):=by
 walk_at "T C,st,x hq";walk_at "I B,T,σ,s,v,Q y hv h";obtain ⟨t,rfl⟩:=hv;refine wpAny_pyIter_strU (h _ (fun k o=>o.cls= .type (strIterType x)∧o.data= .fields #[.str x t, .int k 0]) rfl ⟨?_,?_,?_⟩ ⟨rfl,rfl⟩)
 ·rintro k σ' H' s' p o Q E x' hpre ho hR hn hQ
  simp only [Nv,cy,f4] at hn;refine aE (hn) fun c hc qz2=>?_;subst qz2;unfold strIterType at hR;cases ha:x.cps.all (· <128)<;>simp only [ha,if_true,if_false,bu] at hR
  ·refine wpAny_pyNext_wide_item (c:=c) ⟨_,ho,hR.1,hR.2⟩ (by simpa using hc) fun h' hit hs=>?_
   refine nN (hit) fun o' h3 h4 h5=>?_;exact hQ _ h' _ o' ⟨_,rfl⟩ hs.extBut h3 ⟨by simp only [strIterType,ha];exact h4,h5⟩
  ·refine wpAny_pyNext_ascii_item (c:=c) ⟨_,ho,hR.1,hR.2⟩ (by simpa using hc) fun h' hit hs=>?_
   refine nN (hit) fun o' h3 h4 h5=>?_;exact hQ _ h' _ o' ⟨_,rfl⟩ hs.extBut h3 ⟨by simp only [strIterType,ha];exact h4,h5⟩
 ·rintro k σ' H' s' o Q E x' hpre ho hR hn hQ
  simp only [Nv,cy,k7] at hn;unfold strIterType at hR;cases ha:x.cps.all (· <128)<;>simp only [ha,if_true,if_false,bu] at hR
  ·exact wpAny_pyNext_wide_end hq.1 ⟨_,ho,hR.1,hR.2⟩ (by simpa using hn) fun h' hx=>hQ h' _ hx
  ·exact wpAny_pyNext_ascii_end hq.1 ⟨_,ho,hR.1,hR.2⟩ (by simpa using hn) fun h' hx=>hQ h' _ hx
 ·rintro k s' o Q E ho hR hQ
  unfold strIterType at hR;cases ha:x.cps.all (· <128)<;>simp only [ha,if_true,if_false,bu] at hR
  ·exact wpAny_pyIter_striter_wide ⟨_,ho,hR.1,hR.2⟩ hQ
  ·exact wpAny_pyIter_striter_ascii ⟨_,ho,hR.1,hR.2⟩ hQ
def nZ (n:Nat) (k:Nat) (_:List PO):Option (Option PV):=some (if k<n then some (.int k) else none)
theorem wC (h:n≤1000000):qa 0 n 1=true∧ma 0 n 1=n:=by
 have h2:ma 0 n 1=n:=by
  delta ma;split
  ·split
   ·simp
   ·simp_all
  ·simp at*
 refine ⟨?_,h2⟩;delta qa;rw [h2];delta Builtin.Range.rangeFitsLong;simp only [bt,gj,decide_eq_true_eq,beq_iff_eq];refine ⟨⟨⟨⟨⟨by decide,by decide⟩,⟨by simp,by lia⟩⟩,⟨by decide,by decide⟩⟩,⟨by simp,by lia⟩⟩, .inr ?_⟩;split
 ·simp only [bt,decide_eq_true_eq];lia
 ·simp at*
theorem Cy {I:Addr} (hh:C.A.handled=none):It C σ I (nZ n) (fun k o=>k≤n∧o={cls:= .type "range_iterator",data:= .fields #[rawInt k,rawInt (n - k:Int),rawInt 1]}):=by
 refine ⟨?_,?_,?_⟩
 ·rintro k σ' H' s' p o Q E x' hpre ho ⟨hk,rfl⟩ hn hQ
  simp only [nZ,cy] at hn;split at hn
  ·rename_i hlt
   cases hn;refine wpAny_pyNext_range_item ho (by simp_all) fun h' hit hs=>?_;exact hQ _ h' _ _ ⟨_,rfl⟩ hs.extBut hit ⟨hlt,by simp only [Int.natCast_add,Int.natCast_one,Int.sub_sub]⟩
  ·cases hn
 ·rintro k σ' H' s' o Q E x' hpre ho ⟨hk,rfl⟩ hn hQ
  simp only [nZ,cy] at hn;split at hn
  ·cases hn
  ·exact wpAny_pyNext_range_end hh ho (by lia) fun h' hx=>hQ h' _ hx
 ·rintro k s' o Q E ho ⟨hk,rfl⟩ hQ
  exact wpAny_pyIter_rangeiter ho hQ
end
end
section
def Cx.sub (C:Cx) (env:Env) (A:jx) (E:ak→az→Prop) (vis:List (Str×Nat)) (own:List Str):Cx:={C with env,A,E,vis,own}
theorem lH.keeps {K:Frag} {h h':Heap} (x:lH K h) (k: ∀b o,h.get? b=some o→h'.get? b=some o):lH K h':=by
 refine ⟨fun a o e=>k _ _ (x.KX a o e),x.lim.keeps k,?_,?_⟩
 ·obtain ⟨mg,h⟩:=x.glob;exact ⟨mg,h.keeps k⟩
 ·obtain ⟨mb,h,e⟩:=x.blt;exact ⟨mb,h.keeps k,e⟩
section
variable {h h':Heap}
variable {C:Cx} {B:Heap} {T:List Addr} {σ:List Addr} {st:St} {s:az}
theorem Mt.enter (x:Mt C B T σ st s) {h₁:Heap} (t:Nat) {env:Env} {A:jx} {E:ak→az→Prop} {vis:List (Str×Nat)} {own:List Str} {v:List (Option PV)}
  (k: ∀b o,s.heap.get? b=some o→h₁.get? b=some o) (ok:(C.sub env A E vis own).Ok)
  (vars: ∃m,h₁.Ns env.locals m∧ ∀x i w,vis.lookup x=some i→v[i]? =some (some w)→ ∃u,VR σ w u∧eN env h₁ m x u)
  (cl: ∀x∈own, ∀c,env.cells.lookup x=some c→ ∃v₀,h₁.IsCell c v₀)
  (pal: ∀p∈env.locals::env.cells.map (·.2), ∃o,h₁.get? p=some o)
  (priv: ∀p∈env.locals::env.cells.map (·.2),p∉σ) (fr:fC (C.sub env A E vis own) h₁ σ h₁):
  Mt (C.sub env A E vis own) h₁ σ σ ⟨v,st.h⟩ {s with heap:=h₁,toks:=t}:=by
 obtain y:=(x.grow t k).topNow;refine ⟨ok,y,(x.grow t k).hr,vars,cl,pal,priv,fun _ _ e _ _ _=>e,fun a h n=>absurd h n,mq _,x.low,x.gens,x.drawn,x.os,fr⟩
theorem Heap.Ns.slots {a:Addr} {m:Str→Option ak} (x:h.Ns a m) (k: ∀o,h.get? a=some o→ ∃sl,h'.get? a=some {o with slots:=sl}):h'.Ns a m:=by refine Py (x) fun o es n e d r=>?_;obtain ⟨sl,e'⟩:=k o e;exact ⟨_,es,n,e',d,r⟩
theorem Mt.back (x:Mt C B T σ st s) {h₁:Heap} {C':Cx} {σ':List Addr} {st':St} {s':az} (y:Mt C' h₁ σ σ' st' s')
  (k: ∀b o,s.heap.get? b=some o→(b∈C.privs∨B.get? b≠none∨b∈C.fs)→h₁.get? b=some o) (hw: ∀a∈C'.wr,s.heap.get? a=none) (hf: ∀f∈C'.fs,f∈C.fs∨s.heap.get? f=none) (hf2: ∀f∈C.fs,f∈C'.fs) (hg:C'.g=C.g) (hd:C'.d=C.d) (ho:C'.os=C.os) (htp:C'.tp=C.tp:=by rfl):
  Mt C B T σ' ⟨st.v,st'.h⟩ s':=by
 walk_at "T C,B,T,σ,st,s x h₁,C',σ',st',s' y k hw hf hf2 hg hd ho htp";have kw: ∀b o,s.heap.get? b=some o→b∉C'.wr:=fun b o e hm=>by rw [hw b hm] at e;cases e
 have ky: ∀b o,s.heap.get? b=some o→b∉σ→b∉C.fs→(b∈C.privs∨B.get? b≠none)→s'.heap.get? b=some o:=fun b o e n nf q=>
  y.keep b o (k b o e (q.imp id .inl)) n (kw b o e) fun hm=>by
   rcases hf b hm with h|h
   ·exact nf h
   ·rw [h] at e;cases e
 have kf: ∀b o,s.heap.get? b=some o→b∈C.fs→ ∃sl,s'.heap.get? b=some {o with slots:=sl}:=fun b o e hm=>
  y.fr.kp b (hf2 b hm) (kw b o e) o (k b o e (.inr (.inr hm)))
 have ks: ∀b o,s.heap.get? b=some o→b∈C.privs→ ∃sl,s'.heap.get? b=some {o with slots:=sl}:=fun b o e q=>by
  by_cases hm:b∈C.fs
  ·exact kf b o e hm
  ·exact ⟨o.slots,ky b o e (x.priv b q) hm (.inl q)⟩
 have pn: ∀p∈C.privs,p∉σ':=fun p hp hm=>by obtain ⟨o,e⟩:=x.pal p hp;have:=y.sub p hm (x.priv p hp);rw [k p o e (.inl hp)] at this;cases this
 have cp: ∀z c,C.env.cells.lookup z=some c→c∈C.privs:=fun z c e=> .tail _ (du (f:=nj) (List.mem_of_lookup_eq_some' e));refine ⟨x.ok,x.top,y.hr,?_,fun z hz c hc=>?_,fun p hp=>?_,pn,fun b o e n n' n2=>?_,fun a ha hn=>?_,x.pre.trans y.pre,(fun a ha=>htp▸y.low a ha),y.gens.trans hg,y.drawn.trans hd,y.os.trans ho,
  ⟨fun f hm=>y.fr.al f (hf2 f hm),fun f hm=>y.fr.nσ f (hf2 f hm),fun f hm w o e=>?_⟩⟩
 ·refine aE (x.vars) fun m hm hv=>?_
  refine ⟨m,Heap.Ns.slots hm fun o e=>ks _ o e (.head _),fun z i v h1 h2=>?_⟩;refine aE (hv z i v h1 h2) fun u h3 h4=>?_;obtain ⟨r,hr⟩:=y.pre;exact ⟨u,hr▸h3.mono,h4.to id fun c e i=>i.elim fun o q=>(ks c o q.1 (cp z c e)).elim fun _ e3=>⟨_,e3,q.2⟩⟩
 ·refine cH (x.cl z hz c hc) fun v o e1 e2=>?_
  obtain ⟨sl,e3⟩:=ks c o e1 (cp z c hc);exact ⟨v,_,e3,e2⟩
 ·obtain ⟨o,e⟩:=x.pal p hp
  obtain ⟨sl,e3⟩:=ks p o e hp;exact ⟨_,e3⟩
 ·refine ky b o (x.keep b o e n n' n2) (fun hm=>?_) n2 (.inr (by rw [e];simp))
  rw [x.sub b hm n] at e;cases e
 ·by_cases hs:a∈σ
  ·exact x.sub a hs hn
  ·cases e:B.get? a with
   |none=>rfl
   |some o=>have e':=x.keep a o e hn (fun hw=>pn a (bZ hw) ha) fun hm=>y.fr.nσ a (hf2 a hm) ha;have:=y.sub a ha hs;rw [k a o e' (.inr (.inl (by rw [e];simp)))] at this;cases this
 ·obtain ⟨sl,e1⟩:=x.fr.kp f hm w o e
  obtain ⟨sl',e2⟩:=kf f _ e1 hm;exact ⟨sl',e2⟩
theorem lH.low {K:Frag} {n:Nat} (x:lH K h) (hK:260≤n∧ ∀a o,K.lookup a=some o→a<n) (k: ∀b o,b<n→h.get? b=some o→h'.get? b=some o):lH K h':=by
 refine ⟨fun a o e=>k _ _ (hK.2 a o e) (x.KX a o e),?_,?_,?_⟩
 ·obtain ⟨mc,h,e⟩:=x.lim;exact ⟨mc,h.at fun o=>k _ o (c6 (by decide) hK.1),e⟩
 ·obtain ⟨mg,h⟩:=x.glob;exact ⟨mg,h.at fun o=>k _ o (c6 (by decide) hK.1)⟩
 ·obtain ⟨mb,h,e⟩:=x.blt;exact ⟨mb,h.at fun o=>k _ o (c6 (by decide) hK.1),e⟩
theorem Mt.lower (x:Mt C B T σ st s) {B':Heap} (k: ∀b o,B'.get? b=some o→B.get? b=some o) (kl: ∀b o,b<C.tp→B.get? b=some o→B'.get? b=some o):Mt C B' T σ st s:=
 ⟨x.ok,x.top.low x.ok.ktop kl,x.hr,x.vars,x.cl,x.pal,x.priv,fun b o e=>x.keep b o (k b o e),fun a ha hn=>(by
  cases e:B'.get? a with
  |none=>rfl
  |some o=>(have h':=x.sub a ha hn);(rw [k a o e] at h');cases h'),x.pre,x.low,x.gens,x.drawn,x.os,⟨x.fr.al,x.fr.nσ,fun f hm w o e=>x.fr.kp f hm w o (k f o e)⟩⟩
end
variable {kf:Str→Option ly}{u:ak}{x:Str}
theorem kD: ∀(names:List (Str×ly)) (n:Nat) (a:List (Str×Addr)),cellsFrom n names a=cellsFrom n names []++a:=by
 intro zi;induction zi with
 |nil=>intro _ _;exact rfl
 |cons ze r ih=>
  obtain ⟨x,k⟩:=ze;intro n a;unfold cellsFrom;split
  ·rw [ih _ ((x,n)::a),ih _ [(x,n)],aa];rfl
  ·exact ih n a
theorem Hy {M:pd} {A:jx} {E:ak→az→Prop} {s:az} {scope:im} {globals:Addr} {cl:List (Str×Addr)} {qual:Str} {out:Env} {Q:Env→az→Prop}
  (h:Q {scope,locals:=s.heap.objs.size,globals,cells:=cellsFrom (s.heap.objs.size+1) scope.names cl,qual,func:=none,code:=out.code,frame:=out.frame,builtins:=out.builtins}
   {s with heap:=pushCells (s.heap.push {cls:= .type "dict",data:= .dict #[]}) scope.names}):
  bx M A (newFunctionEnv scope globals cl [] qual none .none (some out)) Q E s:=by
 delta newFunctionEnv;refine ag (wpAny_alloc ?_);refine ag (wpAny_layCells _ (fun name kind cells=>by cases hkc:kind==pz<;>simp [hkc]) _ _ _ _ ?_);rw [show ({s with heap:=s.heap.push {cls:= .type "dict",data:= .dict #[]}}:az).heap.objs.size=s.heap.objs.size+1 from gh ..];simp only [List.forIn_nil];exact ag (av (av h))
def Jn (σ:List Addr) (bs:List (Str×PV)) (b:List (Str×ak)):Prop:=b.map (·.1)=bs.map (·.1)∧cF σ (bs.map (·.2)) (b.map (·.2))
def PB (C:Cx) (fd:FuncData) (ps:List PV) (st:St) (K:List (Str×PV)→St→Prop):Prop:= ∀A E B T σ s vs,Mt C B T σ st s→cF σ ps vs→bx C.M A (bindArgs fd ⟨vs,[]⟩) (aO C B T Jn σ K) E s
theorem Jh {C:Cx} {fd:FuncData} {ps:List PV} {st:St} {K:List (Str×PV)→St→Prop} {ns:List Str} (hn:ns.length=ps.length)
  (hb: ∀vs:List ak,vs.length=ps.length→bindArgs fd ⟨vs,[]⟩=pure (ns.zip vs)) (h:K (ns.zip ps) st):PB C fd ps st K:=fun A E B T σ s vs x hv=>by
 rw [hb vs hv.length];refine av (aO.now (b:=ns.zip ps) ⟨?_,?_⟩ x h)
 ·rw [jj (by rw [hv.length];exact dg hn),jj (dg hn)]
 ·obtain e1:(ns.zip vs).map (·.2)=vs:=ji (by rw [hv.length];exact dg hn.symm)
  obtain e2:(ns.zip ps).map (·.2)=ps:=ji (dg hn.symm);rw [e1,e2];exact hv
theorem Ag: ∀{bs:List (Str×ak)} {m:Str→Option ak},x∉bs.map (·.1)→bindL kf bs m x=m x:=by
 intro zi;induction zi with
 |nil=>intro _ _;exact rfl
 |cons ze r ih=>
  obtain ⟨n,v⟩:=ze;intro m h;unfold bindL;simp only [bg,ar,not_or] at h;rw [ih h.2];split
  ·show (if x=n then some v else m x)=m x;rw [if_neg h.1]
  ·rfl
theorem Bw: ∀{bs:List (Str×ak)} {m:Str→Option ak},x∉bs.map (·.1)→bindC kf bs m x=m x:=by
 intro zi;induction zi with
 |nil=>intro _ _;exact rfl
 |cons ze r ih=>
  obtain ⟨n,v⟩:=ze;intro m h;unfold bindC;simp only [bg,ar,not_or] at h;rw [ih h.2];split
  ·rfl
  ·show (if x=n then some v else m x)=m x;rw [if_neg h.1]
theorem uO (hk:kf x=some .local): ∀{bs:List (Str×ak)} {m:Str→Option ak} {i:Nat},(bs.map (·.1)).Nodup→bs[i]? =some (x,u)→bindL kf bs m x=some u:=by
 intro zi;induction zi with
 |nil=>intros;contradiction
 |cons ze r ih=>
  obtain ⟨n,v⟩:=ze;intro m i h e;unfold bindL;rw [bg,eg] at h;cases i with
  |zero=>cases e;rw [Ag h.1,if_pos hk];exact if_pos rfl
  |succ i=>exact ih h.2 e
theorem Db (hk:kf x≠some .local): ∀{bs:List (Str×ak)} {m:Str→Option ak} {i:Nat},(bs.map (·.1)).Nodup→bs[i]? =some (x,u)→bindC kf bs m x=some u:=by
 intro zi;induction zi with
 |nil=>intros;contradiction
 |cons ze r ih=>
  obtain ⟨n,v⟩:=ze;intro m i h e;unfold bindC;rw [bg,eg] at h;cases i with
  |zero=>cases e;rw [Bw h.1,if_neg hk];exact if_pos rfl
  |succ i=>exact ih h.2 e
end
section
variable {l:List Str}{x:Str}
inductive Cc (K:Frag) (f:Addr) (params:Arguments) (body:List iy) (scope:im) (dV:ak):Prop
 |mk (oc:ak) (od:Option Addr) (osl:Array (Option ak)) (name qual:Str) (kV doc pm:ak) (an:Option Addr) (cdv ct:ak):K.lookup f=some ⟨oc,od, .func (fnOf name qual params body scope dV kV doc pm an cdv ct),osl⟩→codeIn K cdv qual=true→Cc K f params body scope dV
def bD (scope:im):List Str:=(scope.names.filter (·.2== .cell)).map (·.1)
def Cx.fn (C:Cx) (fd:FuncData) (L f:Addr) (vis:List (Str×Nat)) (E:ak→az→Prop):Cx:=C.sub (callEnvC fd L f) (C.A.deeper (callEnvC fd L f)) E vis (bD fd.scope)
theorem gS {C:Cx} {env:Env} {E:ak→az→Prop} {vis:List (Str×Nat)} {own:List Str} {f:Addr} (h: ∃e r,C.A.frames=some (e::r)∧e.frame=C.env.frame∧ ∀x∈e::r,x.scope.kind= .function∧ ∃f,x.frame=some f) (hf:env.frame=some f):
  (C.sub env (C.A.deeper env) E vis own).fs=f::C.fs:=by
 refine cH (h) fun e r h1 _=>?_;delta Cx.fs;show ((C.A.frames.map (env:: ·)).getD []).filterMap (·.frame)=_;rw [h1];show (env::e::r).filterMap (·.frame)=f::(e::r).filterMap (·.frame);rw [ge,hf]
def iM (l:List Str):List (Str×Nat):=l.zipIdx
theorem dS: ∀{l:List Str} {n i:Nat},(l.zipIdx n).lookup x=some i→n≤i∧l[i - n]? =some x:=by
 intro zi;induction zi with
 |nil=>intro n i h;cases h
 |cons y r ih=>
  intro n i h;rw [pf,c7] at h;cases e:x==y with
  |true=>rw [e] at h;cases h;rw [eq_of_beq e];simp
  |false=>rw [e] at h;obtain ⟨h1,h2⟩:=ih h;refine ⟨by exact de (by assumption),?_⟩;rw [show i - n=(i - (n+1))+1 by exact aQ 0x514142d414082b1064150502 0x108020000210040100021080010000100001 [_,_] h1,kx];exact h2
theorem fJ {i:Nat} (h:(iM l).lookup x=some i):l[i]? =some x:=(dS h).2
theorem qP (x y:Str) (i:Nat) (h:(iM l).lookup x=some i) (k:(iM l).lookup y=some i):x=y:=by have h:=fJ h;have k:=fJ k;rw [h] at k;exact ba k
theorem fS: ∀(names:List (Str×ly)) (n:Nat),(cellsFrom n names []).map (·.1)=((names.filter (·.2== .cell)).map (·.1)).reverse:=by
 intro zi;induction zi with
 |nil=>intro _;exact rfl
 |cons ze r ih=>
  obtain ⟨x,k⟩:=ze;intro n;unfold cellsFrom;by_cases h:(k== .cell)=true
  ·rw [if_pos h,kD,bv,ih];simp only [c9,h,if_true,bg,o4,gi]
  ·rw [if_neg h,ih];simp only [c9,h,if_false,bu]
theorem iP {scope:im} (h:(bD scope).Nodup) {n:Nat}:((cellsFrom n scope.names []).map (·.1)).Nodup:=by rw [fS];exact ru.mpr (h.imp fun e=>l6 e)
theorem dW {α:Type} {l:List (Str×α)} {n:Str} {c:α} (h:(l.map (·.1)).Nodup) (hm:(n,c)∈l):l.lookup n=some c:=by
 induction l with
 |nil=>cases hm
 |cons a r ih=>
  rw [bg,eg] at h;rw [c7];rcases ar.mp hm with e|hm
  ·rw [←e,beq_self_eq_true]
  ·obtain this:(n==a.1)=false:=by
    cases e:n==a.1 with
    |false=>rfl
    |true=>exact absurd (ap.mpr ⟨_,hm,eq_of_beq e⟩) h.1
   rw [this];exact ih h.2 hm
theorem cF.map_get {σ:List Addr} {bs:List (Str×PV)} {b:List (Str×ak)} (h:Jn σ bs b) {i:Nat} {x:Str} {w:PV} (e:bs[i]? =some (x,w)): ∃u,b[i]? =some (x,u)∧VR σ w u:=by
 walk_at "T σ,bs,b h i,x,w e";obtain ⟨h1,h2⟩:=h;obtain ⟨u,hu,hr⟩:=h2.get (i:=i) (p:=w) (by rw [b8,e];rfl);rw [b8] at hu;refine nn fun gg=>?_;obtain ⟨⟨y,u'⟩,hy,e'⟩:=f4.mp hu;refine gg ?_;obtain e':u'=u:=e';subst e';have:(b.map (·.1))[i]? =(bs.map (·.1))[i]? :=by rw [h1]
 rw [b8,b8,e,hy] at this;cases this;exact ⟨u',hy,hr⟩
section
variable {body:List iy}{dV:ak}{f:Addr}{params:Arguments}{ps:List PV}{scope:im}
variable {C:Cx} {st:St} {K:PV→St→Prop}
def iL:Fl→PV
 | .ret p=>p
 |_=> .none
def He (C:Cx) (f:ak) (ps:List PV) (st:St) (K:PV→St→Prop):Prop:= ∀B T σ s vs,Mt C B T σ st s→cF σ ps vs→
 rj C.M C.A (.call f ⟨vs,[]⟩) (fun r s'=>match r with| .ok (.ret v)=>aO C B T VR σ K v s'| .ok _=>False| .error e=>C.E e s') s
theorem He.pc {f:ak} (h:He C f ps st K):PC C f ps st K:=fun B T σ s vs x hv=>wpAny_call (h B T σ s vs x hv)
theorem yZ {f:Addr} {params:Arguments} {body:List iy} {scope:im} {dV:ak} {ps:List PV} {B:Heap} {T σ:List Addr} {s:az} {vs:List ak} {EO:ak→az→Prop} {EI:Cx→St→Heap→List Addr→ak→az→Prop} {Bd:Cx→St→(Fl→St→Prop)→St→Prop} (locals:List Str) (F:Cc C.K f params body scope dV) (hroom:C.A.depth<recursionLimit)
  (x:Mt C B T σ st s) (hv:cF σ ps vs)
  (bind: ∀name qual kV doc pm an cdv ct,PB C (fnOf name qual params body scope dV kV doc pm an cdv ct) ps st fun bs st1=>
   (bs.map (·.1)++locals).Nodup∧(∀x∈bs.map (·.1),scope.names.lookup x=some .local∨(scope.names.lookup x=some .cell∧ ∀n,((cellsFrom n scope.names []).lookup x).isSome=true))∧
   ∀L,Bd (C.fn (fnOf name qual params body scope dV kV doc pm an cdv ct) L f (iM (bs.map (·.1)++locals)) fun _ _=>False) ⟨bs.map (fun b=>some b.2)++locals.map (fun _=>none),st1.h⟩ (fun fl st2=>K (iL fl) ⟨st1.v,st2.h⟩) st1)
  (hB: ∀fd L vis st3 K' st1 h' σ' s3,Bd (C.fn fd L f vis fun _ _=>False) st3 K' st1→Mt (C.fn fd L f vis fun _ _=>False) h' σ' σ' st3 s3→
   bx C.M (C.A.deeper (callEnvC fd L f)) (execs body (callEnvC fd L f)) (aO (C.fn fd L f vis fun _ _=>False) h' σ' FR σ' K') (EI (C.fn fd L f vis fun _ _=>False) st1 h' σ') s3)
  (hE: ∀fd L vis σ1 st1 s1 h' st3 s3 e s2,Mt C B T (σ++σ1) st1 s1→(∀b o,s1.heap.get? b=some o→h'.get? b=some o)→(∀a,s1.heap.objs.size≤a→s1.heap.get? a=none)→
   (∀p∈(callEnvC fd L f).locals::(callEnvC fd L f).cells.map (·.2),s1.heap.objs.size≤p)→Mt (C.fn fd L f vis fun _ _=>False) h' (σ++σ1) (σ++σ1) st3 s3→L=s1.heap.objs.size→
   EI (C.fn fd L f vis fun _ _=>False) st1 h' (σ++σ1) e s2→bx C.M (C.A.deeper (callEnvC fd L f)) (leaving (callEnvC fd L f) e) (fun _ s4=>EO e s4) (fun e' s4=>EO e' s4) s2)
  (hnc:(bD scope).Nodup) (hco:scope.isCoroutine=false) (hgen:scope.isGenerator=false) (hk:scope.kind= .function):
  rj C.M C.A (.call (.ref f) ⟨vs,[]⟩) (fun r s'=>match r with| .ok (.ret v)=>aO C B T VR σ K v s'| .ok _=>False| .error e=>EO e s') s:=by
 walk_at "T C,st,K,f,params,body,scope,dV,ps,B,T,σ,s,vs,EO,EI Bd,locals F hroom x hv bind hB hE hnc hco hgen hk";refine nn ?_;walk_at "I gg";obtain ⟨oc,od,osl,name,qual,kV,doc,pm,an,cdv,ct,hK,hcd⟩:=F;refine gg ?_;have X:=x.topNow.KX;refine (codeAny_call_function (fd:=fnOf name qual params body scope dV kV doc pm an cdv ct) hroom (X _ _ hK) rfl hco hgen rfl (codeRec_of X hcd) ?_);refine bc (bind name qual kV doc pm an cdv ct _ (fun _ _=>False) _ _ _ _ _ x hv) (fun binds s1 hzz=>hzz.el fun τ1 bs st1 b1 y hzy=>?_) fun _ _ e=>e.elim;obtain ⟨hnd,hkind,hbody⟩:=hzy;have e1:=b1.1;refine wpAny_newFunctionEnv_cells hk (fun z hz=>?_) fun env he s' I=>?_
 ·have:z.1∈bs.map (·.1):=e1▸du hz
  rcases hkind _ this with h|⟨h,h'⟩
  ·exact .inl h
  ·exact .inr ⟨h,h' _⟩
 have he':env=callEnvC (fnOf name qual params body scope dV kV doc pm an cdv ct) s1.heap.objs.size f:=he;subst he';refine cH (I.done) fun h' tk qz2 hkeep=>?_;subst qz2;refine ⟨y.topNow.lim.keeps hkeep,codeAny_func ?_⟩;have hfr: ∀a,s1.heap.objs.size≤a→s1.heap.get? a=none:=fun a ha=>by
  cases e:s1.heap.get? a with
  |none=>rfl
  |some o=>exact absurd (dc e) (fe.mpr ha)
 have hL:(callEnvC (fnOf name qual params body scope dV kV doc pm an cdv ct) s1.heap.objs.size f).locals=s1.heap.objs.size:=rfl;have hcabove: ∀n c,(n,c)∈(callEnvC (fnOf name qual params body scope dV kV doc pm an cdv ct) s1.heap.objs.size f).cells→s1.heap.objs.size<c:=fun n c h=>I.above n c h;have hpabove: ∀p∈(callEnvC (fnOf name qual params body scope dV kV doc pm an cdv ct) s1.heap.objs.size f).locals::(callEnvC (fnOf name qual params body scope dV kV doc pm an cdv ct) s1.heap.objs.size f).cells.map (·.2),s1.heap.objs.size≤p:=fun p hp=>by
  rcases ar.mp hp with rfl|hp
  ·exact ay _
  ·obtain ⟨⟨n,c⟩,hm,rfl⟩:=ap.mp hp;exact de (hcabove n c hm)
 have z:=y.enter (h₁:=h') tk (env:=callEnvC (fnOf name qual params body scope dV kV doc pm an cdv ct) s1.heap.objs.size f)
  (A:=C.A.deeper (callEnvC (fnOf name qual params body scope dV kV doc pm an cdv ct) s1.heap.objs.size f)) (E:=fun _ _=>False) (vis:=iM (bs.map (·.1)++locals)) (own:=bD scope)
  (v:=bs.map (fun b=>some b.2)++locals.map (fun _=>none)) hkeep ⟨hk,rfl,rfl,?_,?_,x.ok.ktop,qP,?_,?_⟩ ⟨_,I.toInCall.ns,?_⟩ ?_ ?_ ?_ ?_
 ·refine bc (hB _ _ _ _ _ _ _ _ _ (hbody s1.heap.objs.size) z) (fun fl s2 hrz=>hrz.el fun τ2 fl' st2 r1 r2 r3=>?_) fun e s2 he=>hE _ _ _ _ _ _ _ _ _ _ _ y hkeep hfr hpabove z rfl he
  have hfsE: ∀q,q∈(C.fn (fnOf name qual params body scope dV kV doc pm an cdv ct) s1.heap.objs.size f (iM (bs.map (·.1)++locals)) fun _ _=>False).fs↔q=s1.heap.objs.size∨q∈C.fs:=fun q=>by delta Cx.fn;rw [gS (f:=s1.heap.objs.size) x.ok.frs rfl,ar]
  have back:=y.back r2 (fun b o e _=>hkeep b o e) (fun a ha=>hfr a (hpabove a (bZ ha))) (fun q hq=>((hfsE q).mp hq).elim (fun e=> .inr (by rw [e];exact hfr _ (ay _))) .inl) (fun q hq=>(hfsE q).mpr (.inr hq)) rfl rfl rfl;rw [aa] at back r1;cases fl' with
  |next=>cases r1;exact ⟨_, .none,_,rfl,back,r3⟩
  |brk=>cases r1;exact ⟨_, .none,_,rfl,back,r3⟩
  |cont=>cases r1;exact ⟨_, .none,_,rfl,back,r3⟩
  |ret p=>obtain ⟨v,rfl,h4⟩:=r1;exact ⟨_,p,_,h4,back,r3⟩
 ·refine eg.mpr ⟨fun hm=>?_,?_⟩
  ·refine nn ?_
   walk_at "I gg";obtain ⟨⟨n,c⟩,hm,e⟩:=ap.mp hm;refine gg ?_;have e:c=s1.heap.objs.size:=e;exact ci _ (e▸hcabove n c hm)
  ·exact jw.mpr I.apart
 ·intro a ha
  exact aq y.big (hpabove a (bZ ha))
 ·intro q hq
  rw [gS (f:=s1.heap.objs.size) x.ok.frs rfl,ar] at hq;rcases hq with rfl|hq
  ·exact y.big
  ·exact x.ok.flow q hq
 ·refine fW (x.ok.frs) fun e0 r0 g1 g2 g3=>?_
  refine ⟨callEnvC (fnOf name qual params body scope dV kV doc pm an cdv ct) s1.heap.objs.size f,e0::r0,?_,rfl,fun q hq=>?_⟩
  ·show C.A.frames.map _=_
   rw [g1];rfl
  ·rcases ar.mp hq with rfl|hq
   ·exact ⟨hk,_,rfl⟩
   ·exact g3 q hq
 ·intro n i w hl hg
  have hl:=fJ hl;have hnd':(binds.map (·.1)).Nodup:=by rw [e1];exact (k8.mp hnd).1
  have hi:i<bs.length:=by
   rcases j9 i bs.length with h|h
   ·exact h
   ·rw [bf (by simpa using h),b8] at hg
    cases e:locals[i - (bs.map (fun b=>some b.2)).length]? <;>rw [e] at hg<;>cases hg
  rw [bh (by simpa using hi),b8] at hg hl;refine nn ?_;walk_at "I gg";obtain ⟨⟨n',w'⟩,hb,e⟩:=f4.mp hg;refine gg ?_;have e:w'=w:=ba e;subst e;have e2:n'=n:=by rw [hb] at hl;exact ba hl
  subst e2;refine aE (cF.map_get b1 hb) fun u hu hr=>?_;refine ⟨u,hr,?_⟩;have hm:n'∈bs.map (·.1):=ap.mpr ⟨_,fh hb,rfl⟩;rcases hkind n' hm with h|⟨h,h'⟩
  ·have hk':(callEnvC (fnOf name qual params body scope dV kV doc pm an cdv ct) s1.heap.objs.size f).kindOf n'=some .local:=h
   exact .loc hk' (uO hk' hnd' hu)
  ·have hk':(callEnvC (fnOf name qual params body scope dV kV doc pm an cdv ct) s1.heap.objs.size f).kindOf n'=some .cell:=h
   obtain ⟨c,hc⟩:=gx.mp (h' (s1.heap.objs.size+1));exact .cell (.inl hk') hc (Db (kf:=(callEnvC (fnOf name qual params body scope dV kV doc pm an cdv ct) s1.heap.objs.size f).kindOf) (m:=fun _=>none) (by rw [hk'];decide) hnd' hu▸I.cell n' c hc)
 ·intro n _ c hc;exact ⟨_,I.cell n c hc⟩
 ·intro p hp
  rcases ar.mp hp with rfl|hp
  ·obtain ⟨o,_,_,e,_⟩:=I.toInCall.ns;exact ⟨o,e⟩
  ·refine nn ?_
   walk_at "I gg";obtain ⟨⟨n,c⟩,hm,rfl⟩:=ap.mp hp;refine gg ?_;refine aE (I.cell n c (dW (iP hnc) hm)) fun o e _=>?_;exact ⟨o,e⟩
 ·intro p hp hm
  exact ci _ (c6 (y.hr.lt p hm) (hpabove p hp))
 ·refine ⟨fun q hq=>?_,fun q hq hm=>?_,fun q hq w o e=>⟨o.slots,e⟩⟩
  ·rw [gS (f:=s1.heap.objs.size) x.ok.frs rfl,ar] at hq
   rcases hq with rfl|hq
   ·obtain ⟨o,_,_,e,d,_⟩:=I.toInCall.ns;exact ⟨o,e,fun vs q=>by rw [d] at q;cases q⟩
   ·refine aE (y.fr.al q hq) fun o e d=>?_
    exact ⟨o,hkeep q o e,d⟩
  ·rw [gS (f:=s1.heap.objs.size) x.ok.frs rfl,ar] at hq
   rcases hq with rfl|hq
   ·exact ci _ (y.hr.lt _ hm)
   ·exact y.fr.nσ q hq hm
theorem rZ (locals:List Str) (F:Cc C.K f params body scope dV) (hroom:C.A.depth<recursionLimit)
  (bind: ∀name qual kV doc pm an cdv ct,PB C (fnOf name qual params body scope dV kV doc pm an cdv ct) ps st fun bs st1=>
   (bs.map (·.1)++locals).Nodup∧(∀x∈bs.map (·.1),scope.names.lookup x=some .local∨(scope.names.lookup x=some .cell∧ ∀n,((cellsFrom n scope.names []).lookup x).isSome=true))∧
   ∀L,WS (C.fn (fnOf name qual params body scope dV kV doc pm an cdv ct) L f (iM (bs.map (·.1)++locals)) fun _ _=>False) body ⟨bs.map (fun b=>some b.2)++locals.map (fun _=>none),st1.h⟩ fun fl st2=>K (iL fl) ⟨st1.v,st2.h⟩)
  (hnc:(bD scope).Nodup:=by decide+kernel) (hco:scope.isCoroutine=false:=by rfl) (hgen:scope.isGenerator=false:=by rfl) (hk:scope.kind= .function:=by rfl):He C (.ref f) ps st K:=fun _ _ _ _ _ x hv=>
 yZ (Bd:=fun C' st' K' _=>WS C' body st' K') (EI:=fun _ _ _ _ _ _=>False) locals F hroom x hv bind (fun _ _ _ _ _ _ _ _ _ h z=>h _ _ _ _ z) (fun _ _ _ _ _ _ _ _ _ _ _ _ _ _ _ _ _ he=>he.elim) hnc hco hgen hk
theorem Cz (locals:List Str) (F:Cc C.K f params body scope dV) (hroom:C.A.depth<recursionLimit)
  (bind: ∀name qual kV doc pm an cdv ct,PB C (fnOf name qual params body scope dV kV doc pm an cdv ct) ps st fun bs st1=>
   (bs.map (·.1)++locals).Nodup∧(∀x∈bs.map (·.1),scope.names.lookup x=some .local∨(scope.names.lookup x=some .cell∧ ∀n,((cellsFrom n scope.names []).lookup x).isSome=true))∧
   ∀L,WS (C.fn (fnOf name qual params body scope dV kV doc pm an cdv ct) L f (iM (bs.map (·.1)++locals)) fun _ _=>False) body ⟨bs.map (fun b=>some b.2)++locals.map (fun _=>none),st1.h⟩ fun fl st2=>K (iL fl) ⟨st1.v,st2.h⟩)
  (hnc:(bD scope).Nodup:=by decide+kernel) (hco:scope.isCoroutine=false:=by rfl) (hgen:scope.isGenerator=false:=by rfl) (hk:scope.kind= .function:=by rfl):PC C (.ref f) ps st K:=(rZ locals F hroom bind hnc hco hgen hk).pc
end
end
section
variable {G:Prop}{cells:List (Str×Addr)}{env:Env}{scope:im}{x:Str}{α β γ:Type}
def iU (cells:List (Str×Addr)):List (Str×ly)→List (Str×Addr)→List (Str×Addr)
 |[],acc=>acc
 |(n,k)::r,acc=>if k== .free then match cells.lookup n with|some c=>iU cells r ((n,c)::acc)|none=>acc else iU cells r acc
theorem xF (cells n k r acc):iU cells ((n,k)::r) acc=(if k== .free then match cells.lookup n with|some c=>iU cells r ((n,c)::acc)|none=>acc else iU cells r acc):=rfl
def jF (cells:List (Str×Addr)):List (Str×ly)→Bool
 |[]=>true
 |(n,k)::r=>(k != .free||(cells.lookup n).isSome)&&jF cells r
theorem nY (cells n k r):jF cells ((n,k)::r)=((k != .free||(cells.lookup n).isSome)&&jF cells r):=rfl
theorem wS (f:Str×ly→List (Str×Addr)→Sem (ForInStep (List (Str×Addr))))
  (hf: ∀n k cs,f (n,k) cs=if k== .free then (do let a ←cellOf env n;pure (.yield ((n,a)::cs))) else pure (.yield cs)):
  ∀(names:List (Str×ly)) (acc:List (Str×Addr)),jF env.cells names=true→forIn names acc f=pure (iU env.cells names acc):=by
 intro zi;induction zi with
 |nil=>intro acc _;rw [List.forIn_nil];rfl
 |cons ze r ih=>
  obtain ⟨n,k⟩:=ze;intro acc h;rw [List.forIn_cons,hf];rw [nY] at h;rw [bt,gj] at h;rw [xF];by_cases hk:(k== .free)=true
  ·obtain hk':k= .free:=eq_of_beq hk
   subst hk';obtain ⟨c,hc⟩:=gx.mp (h.1.resolve_left (by decide));rw [if_pos hk,if_pos hk,hc];delta cellOf;rw [hc];exact ih _ h.2
  ·rw [if_neg hk,if_neg hk]
   exact ih _ h.2
theorem qA (h:jF env.cells scope.names=true):closureFor scope env=pure (iU env.cells scope.names []):=by
 delta closureFor;dsimp only;rw [wS _ ?_ scope.names [] h] at ⊢
 ·rfl
 ·intro n k cs;cases hk:k==jl<;>simp [hk]
theorem Dr: ∀{names:List (Str×ly)} {acc:List (Str×Addr)} {n:Str} {c:Addr},(n,c)∈iU cells names acc→(n,c)∈acc∨((n,jl)∈names∧cells.lookup n=some c):=by
 intro zi;induction zi with
 |nil=>intro acc n c h;exact .inl h
 |cons ze r ih=>
  obtain ⟨m,k⟩:=ze;intro acc n c h;rw [xF] at h;split at h
  ·rename_i hk
   split at h
   ·rename_i d hd
    rcases ih h with h|h
    ·rcases ar.mp h with e|h
     ·cases e;rw [eq_of_beq hk];exact .inr ⟨.head _,hd⟩
     ·exact .inl h
    ·exact .inr ⟨.tail _ h.1,h.2⟩
   ·exact .inl h
  ·rcases ih h with h|h
   ·exact .inl h
   ·exact .inr ⟨.tail _ h.1,h.2⟩
theorem qU: ∀{names:List (Str×ly)} {acc:List (Str×Addr)},jF cells names=true→(iU cells names acc).map (·.1)=((names.filter (·.2== .free)).map (·.1)).reverse++acc.map (·.1):=by
 intro zi;induction zi with
 |nil=>intro acc _;exact rfl
 |cons ze r ih=>
  obtain ⟨m,k⟩:=ze;intro acc h;rw [nY] at h;rw [bt,gj] at h;rw [xF];by_cases hk:(k== .free)=true
  ·obtain hk':k= .free:=eq_of_beq hk
   subst hk';obtain ⟨c,hc⟩:=gx.mp (h.1.resolve_left (by decide));simp only [hk,if_true,hc,ih h.2,c9,bg,o4,aa];rfl
  ·simp only [hk,if_false,bu,ih h.2,c9]
def iE (scope:im) (env:Env) (L:Addr):Env:=
 {scope:=relabel scope env,locals:=L,globals:=env.globals,cells:=cellsFrom (L+1) scope.names (iU env.cells scope.names []),qual:=env.qual,func:=none,code:=env.code,frame:=env.frame,builtins:=env.builtins}
def Mb (C:Cx) (scope:im) (own:List Str) (n:Nat):List (Str×Nat):=own.zipIdx n++C.vis.filter fun p=>scope.names.lookup p.1==some .free
def Cx.blk (C:Cx) (scope:im) (own:List Str) (n:Nat) (L:Addr):Cx:=C.sub (iE scope C.env L) C.A (fun _ _=>False) (Mb C scope own n) (bD scope)
def gJ (C:Cx) (scope:im) (own:List Str) (n:Nat):Bool:=
 scope.kind== .function&&(scope.names.all fun p=>p.2 != .free||((C.env.kindOf p.1==some .cell||C.env.kindOf p.1==some .free)&&(C.env.cells.lookup p.1).isSome))&&
  decide (scope.names.map (·.1)).Nodup&&(own.all fun x=>(scope.names.lookup x).any (· != .free))&&(C.vis.all fun p=>decide (p.2<n))
theorem tK {scope:im}: ∀{names:List (Str×ly)} {x:Str},names.lookup x=some .free→
  ∃k,(k= .cell∨k= .free)∧(names.map fun (n,k)=>if (k==jl&&env.scope.kind== .function&&env.kindOf n==some .cell) then (n,pz) else (n,k)).lookup x=some k:=by
 intro zi;induction zi with
 |nil=>intro x h;cases h
 |cons ze r ih=>
  obtain ⟨n,k⟩:=ze;intro x h;rw [c7] at h;rw [bg];cases hx:x==n with
  |true=>
   rw [hx] at h;cases h;by_cases hc:(jl==jl&&env.scope.kind== .function&&env.kindOf n==some .cell)=true
   ·exact ⟨.cell, .inl rfl,by simp only [if_pos hc,c7,hx]⟩
   ·exact ⟨.free, .inr rfl,by simp only [if_neg hc,c7,hx]⟩
  |false=>
   rw [hx] at h;refine aE (ih h) fun k' h1 h2=>?_;refine ⟨k',h1,?_⟩;by_cases hc:(k==jl&&env.scope.kind== .function&&env.kindOf n==some .cell)=true
   ·simp only [if_pos hc,c7,hx];exact h2
   ·simp only [if_neg hc,c7,hx];exact h2
theorem kE {p:Str→Bool}: ∀{l:List (Str×α)} {i:α},(l.filter fun q=>p q.1).lookup x=some i→l.lookup x=some i∧p x=true:=by
 intro zi;induction zi with
 |nil=>intros;contradiction
 |cons ze r ih=>
  obtain ⟨y,j⟩:=ze;intro i h;rw [c9] at h;rw [c7];by_cases hp:p y=true
  ·simp only [hp,if_true,c7] at h
   cases e:x==y with
   |true=>rw [e] at h;have e':=eq_of_beq e;subst e';exact ⟨h,hp⟩
   |false=>rw [e] at h;exact ih h
  ·simp only [hp,if_false,bu] at h
   have:=ih h;cases e:x==y with
   |true=>have e':=eq_of_beq e;subst e';exact absurd this.2 hp
   |false=>exact this
theorem kK {l r:List (Str×α)}:(l++r).lookup x=(l.lookup x).or (r.lookup x):=by
 induction l with
 |nil=>simp
 |cons p l ih=>obtain ⟨y,j⟩:=p;rw [cq,c7,c7];cases x==y<;>simp [ih]
theorem pW {l:List (Str×α)} (h:x∉l.map (·.1)):l.lookup x=none:=by
 cases e:l.lookup x with
 |none=>rfl
 |some c=>exact absurd (ap.mpr ⟨_,List.mem_of_lookup_eq_some' e,rfl⟩) h
theorem Le {a:Bool} {l1:List α} {f1:α→Bool} {P:Prop} [Decidable P] {l2:List β} {f2:β→Bool} {l3:List γ} {Q:γ→Prop} [∀x,Decidable (Q x)]
  (h:(a&&l1.all f1&&decide P&&l2.all f2&&l3.all fun p=>decide (Q p))=true) (k:a=true→(∀x∈l1,f1 x=true)→P→(∀x∈l2,f2 x=true)→(∀x∈l3,Q x)→G):G:=by
 rw [bt,bt,bt,bt,f9,f9,f9] at h;exact k h.1.1.1.1 h.1.1.1.2 (of_decide_eq_true h.1.1.2) h.1.2 fun x m=>of_decide_eq_true (h.2 x m)
theorem pU {C:Cx} {scope:im} {own:List Str} {n:Nat} (hok:gJ C scope own n=true):jF C.env.cells scope.names=true:=by
 walk_at "T C,scope,own,n hok";refine Le hok fun hk hfree hnd hown hvis=>?_;have: ∀l:List (Str×ly),(∀p∈l,p∈scope.names)→jF C.env.cells l=true:=by
  intro l;induction l with
  |nil=>intro _;rfl
  |cons p r ih=>intro h;obtain ⟨n,k⟩:=p;rw [nY];rw [bt,gj];refine ⟨?_,ih fun q hq=>h q (.tail _ hq)⟩;have:=hfree (n,k) (h _ (.head _));rw [gj,bt] at this;exact this.imp id And.right
 exact this _ fun _ h=>h
theorem vB {C:Cx} {own:List Str} {n:Nat} (hok:gJ C scope own n=true):scope.kind= .function∧ ∀x∈scope.names,scope.names.lookup x.1=some x.2:=by refine Le hok fun hk hfree hnd hown hvis=>?_;exact ⟨eq_of_beq hk,fun x hx=>dW hnd hx⟩
theorem mJ {f:α×β→γ} {l:List (α×β)} {z:γ} (h:z∈l.map f) (k: ∀a b,(a,b)∈l→f (a,b)=z→G):G:=(ap.mp h).elim fun p q=>k p.1 p.2 q.1 q.2
theorem Mt.block {C:Cx} {B:Heap} {T σ:List Addr} {st:St} {s:az} (x:Mt C B T σ st s) {scope:im} {own:List Str} (hok:gJ C scope own st.v.length=true):
  (∀b o,s.heap.get? b=some o→(pushCells (s.heap.push {cls:= .type "dict",data:= .dict #[]}) scope.names).get? b=some o)∧
  (∀a∈(C.blk scope own st.v.length s.heap.objs.size).wr,s.heap.get? a=none)∧
  (∀p∈(C.blk scope own st.v.length s.heap.objs.size).privs,s.heap.objs.size≤p∨p∈C.privs)∧
  Mt (C.blk scope own st.v.length s.heap.objs.size) (pushCells (s.heap.push {cls:= .type "dict",data:= .dict #[]}) scope.names) σ σ ⟨st.v++own.map (fun _=>none),st.h⟩
   {s with heap:=pushCells (s.heap.push {cls:= .type "dict",data:= .dict #[]}) scope.names}:=by
 walk_at "T C,B,T,σ,st,s x scope,own hok";have hcapsOk:=pU hok;refine Le hok ?_;walk_at "I hk hfree hnd hown hvis";have hk:=eq_of_beq hk;have keep: ∀b o,s.heap.get? b=some o→(pushCells (s.heap.push {cls:= .type "dict",data:= .dict #[]}) scope.names).get? b=some o:=fun b o e=>pushCells_keeps _ _ b o (cc _ e);have ok:=cellsFrom_ok scope.names (s.heap.push {cls:= .type "dict",data:= .dict #[]}) (s.heap.objs.size+1) [] ⟨fun _ _ hm=>(nomatch hm),l5⟩ (by rw [gh];exact ay _);rw [gh] at ok;have hcells:(iE scope C.env s.heap.objs.size).cells=cellsFrom (s.heap.objs.size+1) scope.names []++iU C.env.cells scope.names []:=kD _ _ _;have hcap: ∀n c,(n,c)∈iU C.env.cells scope.names []→(n,jl)∈scope.names∧C.env.cells.lookup n=some c:=fun n c h=>(Dr h).resolve_left (nomatch ·);have hcpriv: ∀n c,(n,c)∈iU C.env.cells scope.names []→c∈C.privs:=fun n c h=> .tail _ (du (f:=nj) (List.mem_of_lookup_eq_some' (hcap n c h).2));have hplow: ∀p:Nat,p∈C.privs→p<s.heap.objs.size:=fun p hp=>let ⟨o,e⟩:=x.pal p hp;dc e;have hfreekeys: ∀n,n∈(iU C.env.cells scope.names []).map (·.1)→(n,jl)∈scope.names:=fun n hn=>by refine mJ hn fun m c hm qz=>?_;subst qz;exact (hcap m c hm).1
 obtain hcellkeys: ∀n c,(n,c)∈cellsFrom (s.heap.objs.size+1) scope.names []→(n,pz)∈scope.names:=fun n c h=>by have h:n∈(cellsFrom (s.heap.objs.size+1) scope.names []).map (·.1):=ap.mpr ⟨_,h,rfl⟩;rw [fS,pg] at h;refine mJ h fun m k hm qz=>?_;subst qz;have:=bp.mp hm;have e:k= .cell:=eq_of_beq this.2;exact e▸this.1
 have uniq: ∀n k k',(n,k)∈scope.names→(n,k')∈scope.names→k=k':=fun n k k' h h'=>by have:=dW hnd h;rw [dW hnd h'] at this;exact (ba this).symm
 have hcabove: ∀(n:Str) (c:Nat),(n,c)∈cellsFrom (s.heap.objs.size+1) scope.names []→s.heap.objs.size+1≤c:=fun n c h=>(ok.empty n c h).2;obtain hfr: ∀a,s.heap.objs.size≤a→s.heap.get? a=none:=fun a ha=>by
  cases e:s.heap.get? a with
  |none=>rfl
  |some o=>exact absurd (dc e) (fe.mpr ha)
 have hwr: ∀a∈(C.blk scope own st.v.length s.heap.objs.size).wr,s.heap.objs.size≤a:=fun a ha=>by
  rcases ar.mp ha with rfl|ha
  ·exact ay _
  ·refine aE (ot.mp ha) fun n hn e=>?_
   have hn:n∈bD scope:=hn;have e:(iE scope C.env s.heap.objs.size).cells.lookup n=some a:=e;rw [hcells] at e;rcases bq.mp (List.mem_of_lookup_eq_some' e) with h|h
   ·exact aq (jn _) (hcabove _ _ h)
   ·have h1:=(hcap _ _ h).1
    refine mJ hn fun m k hm e'=>?_;have e':m=n:=e';subst e';have:=bp.mp hm;have ek:k= .cell:=eq_of_beq this.2;subst ek;have:=uniq _ _ _ h1 this.1;cases this
 refine ⟨keep,fun a ha=>hfr a (hwr a ha),fun p hp=>?_,x.enter s.toks keep ⟨hk,x.ok.glob,x.ok.bltn,?_,fun a ha=>aq x.big (hwr a ha),x.ok.ktop,?_,x.ok.flow,x.ok.frs⟩ ⟨_,(Heap.Ns.new s.heap (.type "dict")).keeps (pushCells_keeps _ _),?_⟩ ?_ ?_ ?_ ⟨fun f m=>(x.fr.al f m).imp fun o e=>⟨keep f o e.1,e.2⟩,x.fr.nσ,fun f m w o e=>⟨o.slots,e⟩⟩⟩
 ·have hp:p∈(iE scope C.env s.heap.objs.size).locals::(iE scope C.env s.heap.objs.size).cells.map (·.2):=hp
  rw [hcells] at hp;rcases ar.mp hp with rfl|hp
  ·exact .inl (ay _)
  ·refine mJ hp fun n c hm qz=>?_;subst qz
   rcases bq.mp hm with hm|hm
   ·exact .inl (aq (jn _) (hcabove n c hm))
   ·exact .inr (hcpriv n c hm)
 ·show ((iE scope C.env s.heap.objs.size).locals::(iE scope C.env s.heap.objs.size).cells.map (·.2)).Nodup
  rw [hcells,bv];refine eg.mpr ⟨fun hm=>?_,k8.mpr ⟨jw.mpr ok.apart,?_,fun a ha b hb=>?_⟩⟩
  ·rcases bq.mp hm with hm|hm
   ·refine mJ hm fun n c hm e=>?_
    have e:c=s.heap.objs.size:=e;have h2:=hcabove n c hm;rw [e] at h2;exact ci _ h2
   ·refine mJ hm fun n c hm e=>?_
    have e:c=s.heap.objs.size:=e;have h2:=hplow c (hcpriv n c hm);rw [e] at h2;exact ci _ h2
  ·have hn:((iU C.env.cells scope.names []).map (·.1)).Nodup:=by
    rw [qU hcapsOk,gi,be];exact ru.mpr ((hnd.sublist (List.Sublist.map _ sy)).imp fun e=>l6 e)
   obtain hpn:=(eg.mp x.ok.nd).2;obtain inj: ∀n n' c,C.env.cells.lookup n=some c→C.env.cells.lookup n'=some c→n=n':=fun n n' c h h'=>by have h1:=List.mem_of_lookup_eq_some' h;have h2:=List.mem_of_lookup_eq_some' h';exact name_of_addr (jw.mp hpn) h1 h2
   have: ∀l:List (Str×Addr),(∀q∈l,C.env.cells.lookup q.1=some q.2)→(l.map (·.1)).Nodup→(l.map (·.2)).Nodup:=by
    intro l;induction l with
    |nil=>intro _ _;exact l5
    |cons q r ih=>walk_at "I h1 h2";rw [bg,eg] at h2 ⊢;refine ⟨fun hm=>?_,ih (fun p hp=>h1 p (.tail _ hp)) h2.2⟩;refine aE (ap.mp hm) fun p hp e=>?_;have:=inj _ _ _ (h1 p (.tail _ hp)) (e▸h1 q (.head _));exact h2.1 (ap.mpr ⟨p,hp,this⟩)
   exact this _ (fun q hq=>(hcap q.1 q.2 hq).2) hn
  ·refine mJ ha fun n c hm e=>?_
   refine mJ hb fun n' c' hm' e'=>?_;have e:c=a:=e;have e':c'=b:=e';have h1:=hcabove n c hm;have h2:=hplow c' (hcpriv n' c' hm');rw [e] at h1;rw [e'] at h2;intro q;rw [q] at h1;exact ci _ (lb h2 h1)
 ·walk_at "I y,z,i h1 h2"
  have h1:(own.zipIdx st.v.length++C.vis.filter fun p=>scope.names.lookup p.1==some .free).lookup y=some i:=h1;have h2:(own.zipIdx st.v.length++C.vis.filter fun p=>scope.names.lookup p.1==some .free).lookup z=some i:=h2;rw [kK] at h1 h2;have lo: ∀u,(C.vis.filter fun p=>scope.names.lookup p.1==some .free).lookup u=some i→C.vis.lookup u=some i∧i<st.v.length:=fun u h=>by have:=(kE (p:=fun u=>scope.names.lookup u==some .free) h).1;exact ⟨this,hvis _ (List.mem_of_lookup_eq_some' this)⟩
  cases e1:(own.zipIdx st.v.length).lookup y with
  |some j=>
   rw [e1] at h1;cases h1;obtain a1:=dS e1;cases e2:(own.zipIdx st.v.length).lookup z with
   |some j=>rw [e2] at h2;cases h2;have a2:=dS e2;rw [a1.2] at a2;exact ba a2.2
   |none=>rw [e2] at h2;have:=lo z (by simpa using h2);lia
  |none=>
   rw [e1] at h1;obtain b1:=lo y (by simpa using h1);cases e2:(own.zipIdx st.v.length).lookup z with
   |some j=>rw [e2] at h2;cases h2;have a2:=dS e2;lia
   |none=>rw [e2] at h2;exact x.ok.inj y z i b1.1 (lo z (by simpa using h2)).1
 ·walk_at "I y,i,w h1 h2"
  have h1:(own.zipIdx st.v.length++C.vis.filter fun p=>scope.names.lookup p.1==some .free).lookup y=some i:=h1;rw [kK] at h1;cases e1:(own.zipIdx st.v.length).lookup y with
  |some j=>rw [e1] at h1;cases h1;obtain a1:=dS e1;rw [bf a1.1,b8] at h2;cases e:own[i - st.v.length]? <;>rw [e] at h2<;>cases h2
  |none=>
   rw [e1] at h1;obtain ho318:=kE (p:=fun u=>scope.names.lookup u==some .free) (by simpa using h1);walk_at "E ho318 : h3 h4";have h4:scope.names.lookup y=some .free:=by simpa using h4
   obtain hi:=hvis _ (List.mem_of_lookup_eq_some' h3);rw [bh hi] at h2;refine aE (x.vars) fun m hm hv=>?_;refine aE (hv y i w h3 h2) fun u h5 h6=>?_;refine ⟨u,h5,?_⟩;have hf:=hfree _ (List.mem_of_lookup_eq_some' h4);simp only [bne_self_eq_false,mo,bt,gj,beq_iff_eq] at hf;have hc: ∃c,C.env.cells.lookup y=some c∧s.heap.IsCell c (some u):=h6.isFree fun q=>by rw [q] at hf;rcases hf.1 with h|h<;>cases h
   refine aE (hc) fun c hc1 hc2=>?_;obtain hl:(iE scope C.env s.heap.objs.size).cells.lookup y=some c:=by
    rw [hcells,kK];obtain hno:(cellsFrom (s.heap.objs.size+1) scope.names []).lookup y=none:=pW fun hm=>by refine mJ hm fun n d hm e=>?_;have e:n=y:=e;subst e;have:=uniq _ _ _ (hcellkeys _ _ ‹(n,d)∈_›) (List.mem_of_lookup_eq_some' h4);cases this
    rw [hno];obtain hin:y∈(iU C.env.cells scope.names []).map (·.1):=by rw [qU hcapsOk,gi,be,pg];exact ap.mpr ⟨(y, .free),bp.mpr ⟨List.mem_of_lookup_eq_some' h4,rfl⟩,rfl⟩
    cases e:(iU C.env.cells scope.names []).lookup y with
    |none=>refine mJ hin fun n d hm e'=>?_;have:=jk.mp e _ hm;have e':n=y:=e';simp [e'] at this
    |some d=>have:=(hcap _ _ (List.mem_of_lookup_eq_some' e)).2;rw [hc1] at this;cases this;rfl
   refine aE (tK (scope:=scope) (env:=C.env) h4) fun k hk' hlk=>?_;have hkind:(iE scope C.env s.heap.objs.size).kindOf y=some k:=hlk;exact .cell (hk'.imp (fun e=>hkind.trans (congrArg some e)) fun e=>hkind.trans (congrArg some e)) hl (hc2.keeps keep)
 ·walk_at "I n, hn c, hc"
  rw [hcells] at hc;rcases bq.mp (List.mem_of_lookup_eq_some' hc) with h|h
  ·exact ⟨_,(ok.empty n c h).1⟩
  ·refine mJ hn fun m k hm e'=>?_
   obtain e':m=n:=e';subst e';have:=bp.mp hm;obtain ek:k= .cell:=eq_of_beq this.2;subst ek;have:=uniq _ _ _ (hcap _ _ h).1 this.1;cases this
 ·walk_at "I p, hp"
  rcases ar.mp hp with rfl|hp
  ·obtain ⟨o,_,_,e,_⟩:=(Heap.Ns.new s.heap (.type "dict")).keeps (pushCells_keeps scope.names _);exact ⟨o,e⟩
  ·rw [hcells] at hp
   refine mJ hp fun n c hm qz=>?_;subst qz;rcases bq.mp hm with hm|hm
   ·obtain ⟨o,e,_⟩:=(ok.empty n c hm).1;exact ⟨o,e⟩
   ·obtain ⟨o,e⟩:=x.pal _ (hcpriv n c hm);exact ⟨o,keep _ o e⟩
 ·intro p hp hm
  rcases ar.mp hp with rfl|hp
  ·exact ci _ (x.hr.lt _ hm)
  ·rw [hcells] at hp
   refine mJ hp fun n c hp' qz=>?_;subst qz;rcases bq.mp hp' with hp|hp
   ·obtain h1:=x.hr.lt _ hm
    have h2:=hcabove n c hp;exact ci _ (lb h1 h2)
   ·exact x.priv _ (hcpriv n c hp) hm
end
section
variable {B:Heap}{C:Cx}{T σ:List Addr}{ifs:List dh}{s:az}{st:St}
def WM (C:Cx) (a:Nat) (m:ak→Env→Sem Fin→Sem Fin) (st:St) (K:St→Prop):Prop:= ∀B T σ s acc nxt Q,Mt C B T σ st s→σ[a]? =some acc→
 (∀τ st' s',Mt C B T (σ++τ) st' s'→K st'→bx C.M C.A nxt Q C.E s')→bx C.M C.A (m (.ref acc) C.env nxt) Q C.E s
def WI (C:Cx) (ifs:List dh) (st:St) (K:Bool→St→Prop):Prop:=match ifs with
 |[]=>K true st
 |[c]=>WT C c st K
 |_=>False
theorem WI.run {K:Bool→St→Prop} (h:WI C ifs st K) (x:Mt C B T σ st s):
  bx C.M C.A (forIn ifs true fun c r=>if r=true then do let ok ←isTrue c C.env (eval c C.env);pure (i3 ok) else pure (i3 r)) (aO C B T BR σ K) C.E s:=by
 match ifs,h with
 |[],h=>exact wpAny_tests_nil (aO.now rfl x h)
 |[c],h=>exact wpAny_tests_one (h _ _ _ _ x)
def gN (target:dh) (ip:Pos) (ifs:List dh) (emit:Sem Fin→Sem Fin) (nxt:Sem Fin) (it:ak) (env:Env):Sem Fin:=do
 standAt ip
 match ←pyNext it with
 |none=>pure (.done .next)
 |some v=>
  d9 target it v
  assign target env v
  let ok ←forIn ifs true fun c r=>if r=true then do let ok ←isTrue c env (eval c env);pure (i3 ok) else pure (i3 r)
  if ok=true then emit nxt else nxt
def fR (elt:dh) (acc:ak) (env:Env) (nxt:Sem Fin):Sem Fin:=do
 (do let _ ←call (.builtin "list.append") [acc, ←eval elt env])
 nxt
def pC (e:dh) (iter:dh) (acc:ak) (env:Env) (nxt:Sem Fin):Sem Fin:=do
 let x ←eval iter env
 standAt iter.pos
 let x ←dz iter env x;let _ ←runOwn (.compStart e 1 (←holding [x] (pyIter x)) acc env) env
 nxt
theorem gV (elt target iter:dh) (ifs:List dh) (scope:im) (pos:Pos) (it acc:ak) (env:Env):
  compTurn (.ListComp elt [⟨target,iter,ifs,0⟩] scope pos) 0 it acc env=gN target iter.pos ifs (fR elt acc env) (again (.compLoop (.ListComp elt [⟨target,iter,ifs,0⟩] scope pos) 0 it acc env)) it env:=by rfl
theorem Bu (elt target iter target2 iter2:dh) (ifs ifs2:List dh) (scope:im) (pos:Pos) (it acc:ak) (env:Env):
  compTurn (.ListComp elt [⟨target,iter,ifs,0⟩,⟨target2,iter2,ifs2,0⟩] scope pos) 0 it acc env=
   gN target iter.pos ifs (pC (.ListComp elt [⟨target,iter,ifs,0⟩,⟨target2,iter2,ifs2,0⟩] scope pos) iter2 acc env) (again (.compLoop (.ListComp elt [⟨target,iter,ifs,0⟩,⟨target2,iter2,ifs2,0⟩] scope pos) 0 it acc env)) it env:=by rfl
theorem Bi (elt target iter target2 iter2:dh) (ifs ifs2:List dh) (scope:im) (pos:Pos) (it acc:ak) (env:Env):
  compTurn (.ListComp elt [⟨target,iter,ifs,0⟩,⟨target2,iter2,ifs2,0⟩] scope pos) 1 it acc env=
   gN target2 iter2.pos ifs2 (fR elt acc env) (again (.compLoop (.ListComp elt [⟨target,iter,ifs,0⟩,⟨target2,iter2,ifs2,0⟩] scope pos) 1 it acc env)) it env:=by rfl
theorem oK {elt:dh} {gens:List Comprehension} {scope:im} {pos ip:Pos} {d:Nat} {target:dh} {emit:ak→Env→Sem Fin→Sem Fin}
  (hT: ∀it acc env,compTurn (.ListComp elt gens scope pos) d it acc env=gN target ip ifs (emit acc env) (again (.compLoop (.ListComp elt gens scope pos) d it acc env)) it env)
  (hq:C.Quiet) (a:Nat) (nx:Nat→List PO→Option (Option PV)) (Inv:Nat→St→Prop) (N m:Nat)
  (hN: ∀k st2 q,Inv k st2→nx k st2.h=some (some q)→k<N)
  (turn: ∀k st2 q,Inv k st2→nx k st2.h=some (some q)→PA C target q st2 fun st3=>WI C ifs st3 fun ok st4=>if ok=true then WM C a emit st4 (Gc C m (Inv (k+1))) else Gc C m (Inv (k+1)) st4)
  (ok: ∀k st2,Inv k st2→nx k st2.h≠none)
  {I acc:Addr} {Ro:Nat→Obj→Prop} {o:Obj} {R:Result→az→Prop}
  (y:Mt C B T σ st s) (hm:σ.length=m) (ha:σ[a]? =some acc) (σ₀:List Addr) (hIt:It C σ₀ I nx Ro) (hσ₀:σ₀ <+: σ) (hIo:s.heap.get? I=some o) (hR:Ro 0 o) (hIσ:I∉σ) (hIp:I∉C.privs) (hIB:B.get? I=none) (hIF:I∉C.fs) (hI0:Inv 0 st)
  (ht: ∀it v,d9 target it v=pure ())
  (done: ∀k τ st' s',Mt C B T (σ++τ) st' s'→Inv k st'→nx k st'.h=some none→R (.ok .next) s'):
  rj C.M C.A (.compLoop (.ListComp elt gens scope pos) d (.ref I) (.ref acc) C.env) R s:=by
 have hIT:I∉T:=fun hm=>hIσ (y.pre.subset hm);refine codeAny_loop rfl (fun n s=> ∃k τ st o,Mt C B T (σ++τ) st s∧Inv k st∧s.heap.get? I=some o∧Ro k o∧I∉σ++τ∧(n+k=N+1∨(n=0∧N<k))) (fun n s2 hinv=>?_) (N+1)
  ⟨0,[],st,o,by rw [be];exact y,hI0,hIo,hR,by rw [be];exact hIσ, .inl rfl⟩
 show bx _ C.A ((compTurn (.ListComp elt gens scope pos) d (.ref I) (.ref acc) C.env).onRaise (fun x=>do noteFrame x C.env;theTreesLotGoes x)) _ _ s2;refine wpAny_noted ?_;rw [hT];have qE: ∀{P:ak→az→Prop} e s',C.E e s'→P e s':=fun e s' he=>(hq.2 e s' he).elim;refine zY (hinv) fun k τ st2 o2 z hI hIo2 hR2 hIσ2 hmeas=>?_;refine ag (fk (ag ?_))
 match hn:nx k st2.h with
 |none=>exact absurd hn (ok k st2 hI)
 |some none=>refine hIt.done k _ _ s2 o2 _ _ z.hr (hσ₀.trans (dj _ _)) hIo2 hR2 hn fun h' t hx=>?_;exact av (done k τ st2 _ (z.off t hx hIσ2 hIp hIB hIF) hI hn)
 |some (some q)=>
  have hkN:=hN k st2 q hI hn;refine hIt.item k _ _ s2 q o2 _ _ z.hr (hσ₀.trans (dj _ _)) hIo2 hR2 hn fun v' h' t o' hv hx ho' hR'=>?_;have z':=z.off t hx hIσ2 hIp hIB hIF;obtain zr:=z'.rebase;have leave: ∀(τ':List Addr) (st':St) (s':az),Mt C h' (σ++τ) (σ++τ++τ') st' s'→Gc C m (Inv (k+1)) st'→
    ∃m,m<n∧ ∃k τ st o,Mt C B T (σ++τ) st s'∧Inv k st∧s'.heap.get? I=some o∧Ro k o∧I∉σ++τ∧(m+k=N+1∨(m=0∧N<k)):=fun τ' st' s' y1 hg=>by
   obtain io:=y1.keep I o' ho' hIσ2 (fun hw=>hIp (bZ hw)) hIF;have iσ:I∉σ++τ++τ':=fun hm=>by have:=y1.sub I hm hIσ2;rw [ho'] at this;cases this
   have y2:=z'.trans y1;rw [aa] at y2 iσ;refine fW (y2.gc y.pre (hm▸hg)) fun τ'' st'' y3 h3 hsub=>?_;exact ⟨N - k,by (exact aW 0x131ac41d66620d0081d141405421cc22 0x42000020004000840100001 [_,_,_] hmeas hkN),k+1,τ'',st'',o',y3,h3,io,hR',fun hm=>iσ (hsub I hm), .inl (by (exact aQ 0xa28280a941409620cc22 0x80200840008001 [_,_] hkN))⟩
  refine ag (dy (ht _ _) ?_);refine ag (bc (turn k st2 q hI hn _ _ _ _ _ zr hv) (fun _ s3 hrz=>hrz.el fun τ3 _ st3 _ k2 k3=>?_) qE);refine ag (bc (k3.run k2.rebase) (fun ok s4 hrz=>hrz.el fun τ4 ok' st4 e4 l2 l3=>?_) qE);cases e4;have l2':=k2.trans l2;cases ok with
  |false=>simp only [bu,if_false] at l3 ⊢;rw [aa] at l2';exact ag (av (av ⟨rfl,leave _ _ _ l2' l3⟩))
  |true=>simp only [if_true] at l3 ⊢;obtain ha':(σ++τ++τ3++τ4)[a]? =some acc:=dE (((dj _ _).trans (dj _ _)).trans (dj _ _)) ha;refine bc (l3 _ _ _ _ acc _ _ l2'.rebase ha' fun τ5 st5 s5 m2 m3=>?_) (fun _ _ h=>h) qE;have m2':=l2'.trans m2;rw [aa,aa] at m2';exact av ⟨rfl,leave _ _ _ m2' m3⟩
end
section
variable {B h:Heap}{C:Cx}{K:St→Prop}{Q:ak→az→Prop}{T σ:List Addr}{a n:Nat}{elt iter target:dh}{emit:ak→Env→Sem Fin→Sem Fin}{gens:List Comprehension}{ifs:List dh}{ip pos:Pos}{s:az}{scope:im}{st:St}{vs:List ak}{xs:List PV}
abbrev big:Nat:=100000
theorem xV {a:Addr} (e:h.get? a=some (listOf vs.toArray n)):h.PlainList a vs.toArray:=⟨n,e⟩
theorem bF (h:n≤big):n≤sizeLine:=aq h (by decide)
theorem OR.list {a:Addr} {its:Array ak} (e:h.PlainList a its) (hv:its=vs.toArray) (r:cF σ xs vs):OR σ h a (.list xs):=by obtain ⟨n,e⟩:=e;subst hv;exact ⟨_,e,vs,n,rfl,r⟩
theorem Gg {acc:Addr} {p:PV} {v:ak} {E:ak→az→Prop} (x:Mt C B T σ st s) (ha:σ[a]? =some acc) (hl:st.h[a]? =some (.list xs)) (hz:xs.length≤big) (hv:VR σ p v)
  (h: ∀s',Mt C B T σ {st with h:=st.h.set a (.list (xs++[p]))} s'→Q .none s'):bx C.M C.A (call (.builtin "list.append") [.ref acc,v]) Q E s:=by
 refine cH (x.list ha hl) fun vs n e r=>?_;refine wpAny_list_append_plain (xV e) (fun h' hp hs=>?_) (bF (by simp [r.length];exact hz));exact h _ (x.upd s.toks ha hs (OR.list hp (vs:=vs++[v]) (by simp) (r.append (.cons hv .nil))))
inductive Mz (a:Nat) (K:St→Prop) (x:PV) (st1:St):Prop
 |mk (xs:List PV) (h1:st1.h[a]? =some (.list xs)) (h2:xs.length≤big) (k:K {st1 with h:=st1.h.set a (.list (xs++[x]))}):Mz a K x st1
theorem nS (hq:C.Quiet) (h:WE C elt st (Mz a K)):WM C a (fR elt) st K:=
 fun B T σ s acc nxt Q x ha hQ=>by delta fR;refine ag (ag (bc (h _ _ _ _ x) (fun v s1 hzz=>hzz.el fun τ p st1 h1 h2 hzy=>?_) fun e s' he=>(hq.2 e s' he).elim));obtain ⟨xs,h3,h4,h5⟩:=hzy;refine ag (Gg h2 (dE (dj _ _) ha) h3 h4 h1 fun s' h6=>av ?_);exact hQ _ _ _ h6 h5
theorem oG {d:Nat} {I:Addr} {acc:ak} {R:Result→az→Prop} {σ₀:List Addr} {nx:Nat→List PO→Option (Option PV)} {Ro:Nat→Obj→Prop} {o:Obj}
  (hg:gens[d]? =some ⟨target,iter,ifs,0⟩) (hIt:It C σ₀ I nx Ro) (hIo:s.heap.get? I=some o) (hR:Ro 0 o)
  (h:rj C.M C.A (.compLoop (.ListComp elt gens scope pos) d (.ref I) acc C.env) R s):
  rj C.M C.A (.compStart (.ListComp elt gens scope pos) d (.ref I) acc C.env) R s:=by
 refine codeAny_of_tree ?_;show bx _ _ ((compStart (.ListComp elt gens scope pos) d (.ref I) acc C.env).onRaise (fun x=>do noteFrame x C.env;standAt theWindowsPlace)) _ _ s;refine wpAny_notedAt ?_;delta compStart;have hc:(clausesOf (.ListComp elt gens scope pos))[d]? =some ⟨target,iter,ifs,0⟩:=hg;simp only [hc,lr,bne_self_eq_false,bu,if_false];refine ag (wpAny_askSetting (wpAny_ite ?_));split
 ·first
   |exact ag (av (av (pt rfl h)))
   |exact av (pt rfl h)
 ·refine ag (wpAny_rule ?_)
  refine ag (fk ?_);refine ag (hIt.again 0 s o _ _ hIo hR ?_);exact av (pt rfl h)
inductive Ei (target:dh) (ifs:List dh) (emit:ak→Env→Sem Fin→Sem Fin) (a:Nat) (C:Cx) (K:St→Prop) (nx:Nat→List PO→Option (Option PV)) (st1:St):Prop
 |mk (Inv:Nat→St→Prop) (N:Nat):Inv 0 st1→(∀k st2 q,Inv k st2→nx k st2.h=some (some q)→k<N)→
   (∀k st2 q,Inv k st2→nx k st2.h=some (some q)→PA C target q st2 fun st3=>WI C ifs st3 fun ok st4=>if ok=true then WM C a emit st4 (Gc C st1.h.length (Inv (k+1))) else Gc C st1.h.length (Inv (k+1)) st4)→
   (∀k st2,Inv k st2→nx k st2.h≠none)→(∀k st2,Inv k st2→nx k st2.h=some none→K st2)→Ei target ifs emit a C K nx st1
inductive sJ (target:dh) (ifs:List dh) (emit:ak→Env→Sem Fin→Sem Fin) (scope:im) (own:List Str) (n₀:Nat) (C:Cx) (KE:Nat→List (Option PV)→List PO→Prop) (nx:Nat→List PO→Option (Option PV)) (st1:St):Prop
 |mk (hv:st1.v.length=n₀) (Inv:Nat→St→Prop) (N:Nat):Inv 0 ⟨st1.v++own.map (fun _=>none),st1.h++[.list []]⟩→(∀k st2 q,Inv k st2→nx k st2.h=some (some q)→k<N)→
   (∀L k st2 q,Inv k st2→nx k st2.h=some (some q)→PA (C.blk scope own n₀ L) target q st2 fun st3=>WI (C.blk scope own n₀ L) ifs st3 fun ok st4=>
    if ok=true then WM (C.blk scope own n₀ L) st1.h.length emit st4 (Gc (C.blk scope own n₀ L) (st1.h.length+1) (Inv (k+1))) else Gc (C.blk scope own n₀ L) (st1.h.length+1) (Inv (k+1)) st4)→
   (∀k st2,Inv k st2→nx k st2.h≠none)→(∀k st2,Inv k st2→nx k st2.h=some none→KE st1.h.length st1.v st2.h)→sJ target ifs emit scope own n₀ C KE nx st1
theorem Ih
  (hT: ∀it acc env,compTurn (.ListComp elt gens scope pos) 1 it acc env=gN target ip ifs (emit acc env) (again (.compLoop (.ListComp elt gens scope pos) 1 it acc env)) it env)
  (hg:gens[1]? =some ⟨target,iter,ifs,0⟩) (hq:C.Quiet)
  (h:tJ C iter st (Ei target ifs emit a C K))
  (hs: ∀env x,dz iter env x=pure x:=by intro _ _;rfl) (ht: ∀it v,d9 target it v=pure ():=by intro _ _;rfl):
  WM C a (pC (.ListComp elt gens scope pos) iter) st K:=fun B T σ s acc nxt Q x ha hQ=>by
 delta pC;obtain qE: ∀{P:ak→az→Prop} e s',C.E e s'→P e s':=fun e s' he=>(hq.2 e s' he).elim;refine ag (bc (h _ _ _ _ (fun itv s'=>_) C.E C.E x ?_) (fun v s1 hv=>ag (fk (ag (dy (hs _ _) (ag (cj hv)))))) qE);intro τ1 st1 s1 o Ro nx h2 hK hf hIt hR;refine nn fun gg=>?_;obtain ⟨Inv,N,hI0,hN,turn,ok,done⟩:=hK;refine gg ?_;obtain y:=h2.junk o;generalize hIdef:s1.heap.objs.size=I at*;have hIσ:I∉σ++τ1:=fun hm=>ci _ (hIdef▸h2.hr.lt I hm);obtain hIp:I∉C.privs:=fun hm=>let ⟨o',e⟩:=h2.pal I hm;ci _ (hIdef▸dc e);obtain hIT:I∉T:=fun hm=>hIσ (h2.pre.subset hm);obtain hIB:B.get? I=none:=h2.fresh I (dg hIdef) hIT;have hIo:(s1.heap.push o).get? I=some o:=hIdef▸b9 _ hf;obtain hIF:I∉C.fs:=h2.fr.fresh (dg hIdef);refine ag (wpAny_runOwn ?_);refine oG hg hIt hIo hR ?_;refine oK hT hq a nx Inv N st1.h.length hN turn ok y h2.hr.len (dE (dj _ _) ha) _ hIt (mq _) hIo hR hIσ hIp hIB hIF hI0 ht fun k τ st' s' z hI hn=>?_;rw [aa] at z;exact hQ _ _ _ z (done k st' hI hn)
theorem rK {P:PV→St→Prop} {use:Option (ak→Sem Unit)} (own:List Str)
  (hT: ∀it acc env,compTurn (.ListComp elt gens scope pos) 0 it acc env=gN target ip ifs (emit acc env) (again (.compLoop (.ListComp elt gens scope pos) 0 it acc env)) it env)
  (hg:gens[0]? =some ⟨target,iter,ifs,0⟩) (hq:C.Quiet) (n₀:Nat) (hb:gJ C scope own n₀=true)
  (h:tJ C iter st (sJ target ifs emit scope own n₀ C (fun l v H=>P (.ref l) ⟨v,H⟩)))
  (hs: ∀env x,dz iter env x=pure x:=by intro _ _;rfl) (ht: ∀it v,d9 target it v=pure ())
  (x:Mt C B T σ st s)
  (nQ: ∀(acc L:Addr) (τ:List Addr) (a:Nat) (st':St) (s':az),Mt C B T (σ++τ) st' s'→(σ++τ)[a]? =some acc→(∃m,s'.heap.Ns L m)→L∉σ++τ→L∉C.privs→B.get? L=none→L∉C.fs→P (.ref a) st'→
   compPost C.M C.A C.E use Q (.ref acc) L (.ok .next) s'):
  bx C.M C.A (comprehension (.ListComp elt gens scope pos) scope C.env (firstIterPos gens pos) (newList []) (firstAsync gens) (firstIter gens C.env) use) Q C.E s:=by
 have qE: ∀{P:ak→az→Prop} e s',C.E e s'→P e s':=fun e s' he=>(hq.2 e s' he).elim;obtain ⟨g,gs,rfl⟩: ∃g gs,gens=g::gs:=by cases gens with
  |nil=>cases hg
  |cons g gs=>exact ⟨g,gs,rfl⟩
 cases hg;obtain ⟨hkind,hnames⟩:=vB hb;refine wpAny_comprehension_free rfl (hs _) (qA (pU hb)) hkind (fun y hy hl=>by rw [hnames y hy,hl]) ?_;refine h _ _ _ _ _ _ _ x fun τ1 st1 s1 o Ro nx h2 hK hf hIt hR=>?_;refine nn fun gg=>?_;obtain ⟨hvl,Inv,N,hI0,hN,turn,ok,done⟩:=hK;refine gg ?_;obtain y:=h2.junk o;generalize hIdef:s1.heap.objs.size=I at*;have hIσ:I∉σ++τ1:=fun hm=>ci _ (hIdef▸h2.hr.lt I hm);have hIp:I∉C.privs:=fun hm=>let ⟨o',e⟩:=h2.pal I hm;ci _ (hIdef▸dc e);obtain hIT:I∉T:=fun hm=>hIσ (h2.pre.subset hm);obtain hIB:B.get? I=none:=h2.fresh I (dg hIdef) hIT;obtain hIo:(s1.heap.push o).get? I=some o:=hIdef▸b9 _ hf;have hIF:I∉C.fs:=h2.fr.fresh (dg hIdef);obtain hIbig:C.tp≤I:=hIdef▸h2.big;refine wpAny_newList ?_;have z:=y.alloc (o:={cls:= .type "list",data:= .seq [].toArray}) (p:= .list []) rfl ⟨_,b9 _ rfl,[],_,rfl, .nil⟩;obtain hsz:(s1.heap.push o).objs.size=I+1:=by rw [gh,hIdef]
 obtain hIσ2:I∉σ++τ1++[(s1.heap.push o).objs.size]:=fun hm=>by
  rcases bq.mp hm with hm|hm
  ·exact hIσ hm
  ·rw [bk,hsz] at hm;exact ez (ch _) hm
 obtain hlen:(σ++τ1++[(s1.heap.push o).objs.size]).length=st1.h.length+1:=by rw [aj,h2.hr.len];rfl
 have hacc:(σ++τ1++[(s1.heap.push o).objs.size])[st1.h.length]? =some (s1.heap.push o).objs.size:=by rw [←h2.hr.len,bf (ay _)];simp
 generalize hA:(s1.heap.push o).objs.size=acc at*;obtain hIo2:((s1.heap.push o).push {cls:= .type "list",data:= .seq [].toArray}).get? I=some o:=cc _ hIo;refine xA (z.block (scope:=scope) (own:=own) (hvl.symm▸hb)) fun kb wb pb b=>?_;refine Hy ?_;subst hvl;have hL:((s1.heap.push o).push {cls:= .type "list",data:= .seq [].toArray}).objs.size=acc+1:=by rw [gh,hA]
 have hIo3:=kb I o hIo2;dsimp only at kb wb pb b hIo3;simp only [hL] at wb pb b;generalize hh:pushCells (((s1.heap.push o).push {cls:= .type "list",data:= .seq [].toArray}).push {cls:= .type "dict",data:= .dict #[]}) scope.names=h₁ at*;obtain b':=b.lower (B':=h₁.hide I) (fun c ob e=>Heap.of_hide e) (fun c ob hc e=>by
  rw [Heap.hide_ne _ (fun q:c=I=>ci _ (c6 (q▸hc) hIbig))];exact e)
 obtain hIp':I∉(C.blk scope own st1.v.length (acc+1)).privs:=fun hm=>by
  rcases pb I hm with h|h
  ·exact absurd h (qk.mpr (by rw [←hA,gh,hIdef];exact jy (ch _)))
  ·exact hIp h
 obtain hq':(C.blk scope own st1.v.length (acc+1)).Quiet:=⟨hq.1,fun _ _ e=>e⟩;have hIt':It (C.blk scope own st1.v.length (acc+1)) (σ++τ1) I nx Ro:=⟨hIt.item,hIt.done,hIt.again⟩;dsimp only
 try simp only [hA,hL,hh]
 refine oG (C:=C.blk scope own st1.v.length (acc+1)) rfl hIt' hIo3 hR ?_;refine oK (C:=C.blk scope own st1.v.length (acc+1)) hT hq' st1.h.length nx Inv N (st1.h.length+1) hN (turn (acc+1)) ok b' hlen hacc _ hIt' (dj _ _) hIo3 hR hIσ2 hIp' (Heap.hide_self _ _) hIF hI0 ht fun k τ st' s' zz hI hn=>?_;obtain zT:(acc+1:Nat)∉T:=fun hm=>ci _ (c6 (z.hr.lt _ (z.pre.subset hm)) (dg hL));obtain zB:B.get? (acc+1:Nat)=none:=z.fresh _ (dg hL) zT;obtain zp:(acc+1:Nat)∉C.privs:=fun hm=>let ⟨_,e⟩:=z.pal _ hm;ci _ (c6 (dc e) (dg hL));obtain back:=z.back zz (fun c ob e hc=>by
  rw [Heap.hide_ne _ (fun q:c=I=>by
   rcases hc with hc|hc|hc
   ·exact hIp (q▸hc)
   ·exact hc (q▸hIB)
   ·exact hIF (q▸hc))]
  exact kb c ob e) wb (fun q hq=> .inl hq) (fun q hq=>hq) rfl rfl rfl
 refine aE (zz.vars) fun mv hns _=>?_;have e:σ++τ1++[acc]++τ=σ++(τ1++([acc]++τ)):=by rw [vS]
 exact nQ acc (acc+1) (τ1++([acc]++τ)) st1.h.length _ s' (e▸back) (by rw [←e];exact dE (dj _ _) hacc) ⟨mv,hns⟩ (e▸zz.priv _ (.head _)) zp zB (z.fr.fresh (dg hL)) (done k st' hI hn)
theorem Kq {K:PV→St→Prop} (own:List Str)
  (hT: ∀it acc env,compTurn (.ListComp elt gens scope pos) 0 it acc env=gN target ip ifs (emit acc env) (again (.compLoop (.ListComp elt gens scope pos) 0 it acc env)) it env)
  (hg:gens[0]? =some ⟨target,iter,ifs,0⟩) (hq:C.Quiet) (n₀:Nat) (hb:gJ C scope own n₀=true)
  (h:tJ C iter st (sJ target ifs emit scope own n₀ C (fun l v H=>K (.ref l) ⟨v,H⟩)))
  (hs: ∀env x,dz iter env x=pure x:=by intro _ _;rfl) (ht: ∀it v,d9 target it v=pure ():=by intro _ _;rfl):
  WE C (.ListComp elt gens scope pos) st K:=fun B T σ s x=>by
 rw [eval_ListComp];refine rK (use:=none) own hT hg hq n₀ hb h hs ht x fun acc L τ a st' s' z ha hns hσ hp hB hF hK=>?_;obtain ⟨m,hns⟩:=hns;exact ⟨m,hns,fun h' hs'=>⟨τ, .ref a,st',⟨acc,ha,rfl⟩,z.off s'.toks hs'.extBut hσ hp hB hF,hK⟩⟩
theorem Lu {KF:Fl→St→Prop} {y:Str} {i:Nat} {p' spos:Pos} (own:List Str)
  (hT: ∀it acc env,compTurn (.ListComp elt gens scope pos) 0 it acc env=gN target ip ifs (emit acc env) (again (.compLoop (.ListComp elt gens scope pos) 0 it acc env)) it env)
  (hg:gens[0]? =some ⟨target,iter,ifs,0⟩) (hq:C.Quiet) (n₀:Nat) (hb:gJ C scope own n₀=true)
  (h:tJ C iter st (sJ target ifs emit scope own n₀ C (fun l v H=>KF .next ⟨v.set i (some (.ref l)),H⟩)))
  (hs: ∀env x,dz iter env x=pure x:=by intro _ _;rfl) (ht: ∀it v,d9 target it v=pure ():=by intro _ _;rfl)
  (hx:C.vis.lookup y=some i) (hk:C.env.kindOf y=some .local) (hsw:swapsWith (.ListComp elt gens scope pos) (some (.Name y p')) spos.line C.env=pure true):
  W1 C (.Assign [.Name y p'] (.ListComp elt gens scope pos) spos) st KF:=fun B T σ s x=>by
 rw [exec_Assign_Name_used _ _ _ _ hsw];refine ag (fk (ag ?_));rw [arm_evalThenUse_ListComp];refine ag (bc (rK (use:=some (assign (.Name y p') C.env)) (Q:=fun _ s'=>aO C B T FR σ KF .next s') (P:=fun p st'=>KF .next ⟨st'.v.set i (some p),st'.h⟩) own hT hg hq n₀ hb h hs ht x
  fun acc L τ a st' s' z ha hns hσ hp hB hF hK=>?_) (fun _ s' hq=>av (av hq)) fun _ _ e=>e)
 obtain ⟨m,hns⟩:=hns;refine aE (z.vars) fun mc hm hvs=>?_;obtain hr:VR (σ++τ) (.ref a) (.ref acc):=⟨acc,ha,rfl⟩;show bx C.M C.A (assign (.Name y p') C.env (.ref acc)) _ C.E s';refine wpAny_assign_Name (wpAny_storeName_local hk hm (fun h' hn hs'=>?_) (by rw [z.ok.kind];rfl));obtain z':=z.setLocal (s'.toks+1) hx hk hr hvs hn hs';obtain hLC:L≠C.env.locals:=fun q=>hp (q▸ .head _);exact ⟨m,hns.sameBut hs' hLC,fun h'' hs''=>⟨τ, .next,_,rfl,z'.off (s'.toks+1) hs''.extBut hσ hp hB hF,hK⟩⟩
end
section
section
variable {B:Heap}{T σ:List Addr}{a:Addr}{e func:dh}{elts rest:List dh}{i:Nat}{id:String}{k:Int}{p:PV}{pos:Pos}{ps xs:List PV}{s:az}{t:Tok}{v:ak}{vs:List ak}{x z:Str}
variable {C:Cx} {st:St} {K:PV→St→Prop} {KB:Bool→St→Prop} {KF:Fl→St→Prop}
theorem wK (e:nsIn C.K ca x=some (some v)) (h:K (.glob v) st) (hx:C.env.kindOf x=some .globalImplicit:=by rfl) (hd:(x==("__debug__":Str))=false:=by decide):WE C (.Name x pos) st K:=fun B T σ s y=>by obtain ⟨mg,G⟩:=y.topNow.glob;exact Name_function_global y.ok.kind hx (loadGlobal_global (env:=C.env) (by rw [y.ok.glob];exact G) (mg_of y.topNow.KX G e) (aO.now (b:= .glob v) rfl y h)) hd
theorem yQ (e:nsIn C.K ca x=some (some (.str z t))) (h:K (.str z) st) (hx:C.env.kindOf x=some .globalImplicit:=by rfl) (hd:(x==("__debug__":Str))=false:=by decide):WE C (.Name x pos) st K:=fun B T σ s y=>by obtain ⟨mg,G⟩:=y.topNow.glob;exact Name_function_global y.ok.kind hx (loadGlobal_global (env:=C.env) (by rw [y.ok.glob];exact G) (mg_of y.topNow.KX G e) (aO.str y h)) hd
theorem zA {z:Int} (e:nsIn C.K ca x=some (some (.int z t))) (h:K (.int z) st) (hx:C.env.kindOf x=some .globalImplicit:=by rfl) (hd:(x==("__debug__":Str))=false:=by decide):WE C (.Name x pos) st K:=fun B T σ s y=>by obtain ⟨mg,G⟩:=y.topNow.glob;exact Name_function_global y.ok.kind hx (loadGlobal_global (env:=C.env) (by rw [y.ok.glob];exact G) (mg_of y.topNow.KX G e) (aO.int y h)) hd
theorem Fj (e:nsIn C.K ca x=some none) (hv:bootBuiltins x=some v) (h:K (.glob v) st) (hn:x≠"__name__":=by decide) (hx:C.env.kindOf x=some .globalImplicit:=by rfl) (hd:(x==("__debug__":Str))=false:=by decide):WE C (.Name x pos) st K:=fun B T σ s y=>by obtain ⟨mg,G⟩:=y.topNow.glob;refine aE (y.topNow.blt) fun mb G' hb=>?_;exact Name_function_global y.ok.kind hx (loadGlobal_builtin (env:=C.env) (by rw [y.ok.glob];exact G) (mg_none_of y.topNow.KX G e) (by rw [y.ok.bltn];exact G') ((hb x hn).trans hv) (aO.now (b:= .glob v) rfl y h)) hd
theorem Gk (h:WE C func st fun f st1=>f= .glob (.builtin id)∧WA C pos (e::rest) st1 fun ps st2=>PC C (.builtin id) ps st2 K)
  (he:eval (.Call func (e::rest) [] pos) C.env=(do callWith pos (←eval func C.env) [] (backTo pos (b0 (e::rest) C.env)) (backToKw pos (ej [] C.env))):=by rfl)
  (he':b0 (e::rest) C.env=(false,eval e C.env)::b0 rest C.env:=by rfl) (hp:(backTo pos (b0 rest C.env)).any (·.1)=false:=by rfl):WE C (.Call func (e::rest) [] pos) st K:=fun B T σ s x=>by
 refine Call_ (bc (h _ _ _ _ x) (fun f s1 hrz=>hrz.el2 fun τ p st1 h1 h2 hp1 h3=>?_) fun _ _ e=>e) he;subst hp1;cases h1;refine PyProof.Rows.callWith_builtin1 (go (h3 _ _ _ _ h2) fun vs s2 τ' ps st2 k1 k2 k3=>?_) he' hp;exact gH (gH (k3 _ _ _ _ vs k2 k1))
theorem Gl (h:WE C func st fun f st1=>f= .glob (.type id)∧WA C pos (e::rest) st1 fun ps st2=>PC C (.type id) ps st2 K)
  (he:eval (.Call func (e::rest) [] pos) C.env=(do callWith pos (←eval func C.env) [] (backTo pos (b0 (e::rest) C.env)) (backToKw pos (ej [] C.env))):=by rfl)
  (he':b0 (e::rest) C.env=(false,eval e C.env)::b0 rest C.env:=by rfl) (hp:(backTo pos (b0 rest C.env)).any (·.1)=false:=by rfl):WE C (.Call func (e::rest) [] pos) st K:=fun B T σ s x=>by
 refine Call_ (bc (h _ _ _ _ x) (fun f s1 hrz=>hrz.el2 fun τ p st1 h1 h2 hp1 h3=>?_) fun _ _ e=>e) he;subst hp1;cases h1;refine om (go (h3 _ _ _ _ h2) fun vs s2 τ' ps st2 k1 k2 k3=>?_) he' hp;exact gH (gH (k3 _ _ _ _ vs k2 k1))
theorem Gm (hk:fy C.K (.ref a)=true) (h:WE C func st fun f st1=>f= .glob (.ref a)∧WA C pos (e::rest) st1 fun ps st2=>PC C (.ref a) ps st2 K)
  (he:eval (.Call func (e::rest) [] pos) C.env=(do callWith pos (←eval func C.env) [] (backTo pos (b0 (e::rest) C.env)) (backToKw pos (ej [] C.env))):=by rfl)
  (he':b0 (e::rest) C.env=(false,eval e C.env)::b0 rest C.env:=by rfl) (hp:(backTo pos (b0 rest C.env)).any (·.1)=false:=by rfl):WE C (.Call func (e::rest) [] pos) st K:=fun B T σ s x=>by
 refine Call_ (bc (h _ _ _ _ x) (fun f s1 hrz=>hrz.el2 fun τ p st1 h1 h2 hp1 h3=>?_) fun _ _ e=>e) he;subst hp1;cases h1;refine callWith_K (h₀:=s1.heap) h2.topNow.KX hk (go (h3 _ _ _ _ h2) fun vs s2 τ' ps st2 k1 k2 k3=>⟨k2.topNow.KX,?_⟩) he' hp;exact gH (gH (k3 _ _ _ _ vs k2 k1))
theorem Cr (x:Mt C B T σ st s) (r:cF σ xs vs):
  Mt C B T (σ++[s.heap.objs.size]) {st with h:=st.h++[.list xs]} {s with heap:=s.heap.push {cls:= .type "list",data:= .seq vs.toArray}}:=
 x.alloc rfl ⟨_,b9 _ rfl,vs,_,rfl,r.mono⟩
theorem Ka (x:Mt C B T σ st s) (r:cF σ xs vs):
  Mt C B T (σ++[s.heap.objs.size]) {st with h:=st.h++[.tuple xs]} {s with heap:=s.heap.push {cls:= .type "tuple",data:= .seq vs.toArray}}:=
 x.alloc rfl ⟨_,b9 _ rfl,vs,_,rfl,r.mono⟩
theorem aO.new {s':az} {p:PO} (x:Mt C B T (σ++[a]) {st with h:=st.h++[p]} s') (hl:σ.length=st.h.length) (h:K (.ref st.h.length) {st with h:=st.h++[p]}):aO C B T VR σ K (.ref a) s':=
 ⟨[a], .ref st.h.length,_,⟨a,by rw [←hl,bf (ay _)];simp,rfl⟩,x,h⟩
theorem e_list (h:WA C pos elts st fun xs st1=>xs.length≤big∧K (.ref st1.h.length) {st1 with h:=st1.h++[.list xs]}):WE C (.List elts pos) st K:=fun B T σ s x=>by refine List_ (bc (h _ _ _ _ x) (fun vs s1 hrz=>hrz.el2 fun τ xs st1 h1 h2 h3 h4=>?_) fun _ _ e=>e);exact wpAny_newObj_type (aO.up (aO.new (Cr h2 h1) h2.hr.len h4)) (by show vs.toArray.size≤sizeLine;rw [cb,h1.length];exact bF h3)
theorem e_tuple {k:Nat} (h:WA C pos elts st fun xs st1=>xs.length≤big∧K (.ref st1.h.length) {st1 with h:=st1.h++[.tuple xs]}):WE C (.Tuple elts k pos) st K:=fun B T σ s x=>by refine Tuple_ (bc (h _ _ _ _ x) (fun vs s1 hrz=>hrz.el2 fun τ xs st1 h1 h2 h3 h4=>?_) fun _ _ e=>e);exact wpAny_newObj_type (aO.up (aO.new (Ka h2 h1) h2.hr.len h4)) (by show vs.toArray.size≤sizeLine;rw [cb,h1.length];exact bF h3)
inductive xB (C:Cx) (R:ak→az→Prop) (E:ak→az→Prop) (v u:ak) (s:az):Prop
 |mk (T' id:String):s.TypeIs v T'→g9 (.type T') "__getitem__"=pure (some (.builtin id))→bx C.M C.A (getItem v u) R E s→xB C R E v u s
def PG (C:Cx) (o i:PV) (st:St) (K:PV→St→Prop):Prop:= ∀B T σ s v u,Mt C B T σ st s→VR σ o v→VR σ i u→xB C (aO C B T VR σ K) C.E v u s
theorem e_sub {value slice:dh} (h:WE C value st fun o st1=>WE C slice st1 fun i st2=>PG C o i st2 K)
  (hs: ∀o i,subscripted slice false o i=operate [o,i] (getItem o i):=by intro _ _;rfl):WE C (.Subscript value slice pos) st K:=fun B T σ s x=>by
 refine Subscript_ (go (h _ _ _ _ x) fun v s1 τ o st1 h1 h2 h3=>?_);refine go (h3 _ _ _ _ h2) fun u s2 τ' i st2 k1 k2 k3=>?_;refine nn fun gg=>?_;obtain ⟨T',id,hT,hl,hg⟩:=k3 _ _ _ _ _ _ k2 h1.mono k1;refine gg ?_;exact gH (gH (tail_any hT hl hg (hs _ _)))
abbrev small (k:Int):Prop:= -(2^63)≤k∧k<2^63
theorem gO (hl:st.h[i]? =some (.list xs)) (hk:small k) (h0:0≤k) (hx:xs[k.toNat]? =some p) (h:K p st):PG C (.ref i) (.int k) st K:=fun B T σ s v u x ⟨a,ha,e⟩ ⟨t,e'⟩=>by subst e e';refine cH (x.list ha hl) fun vs n eo r=>?_;refine aE (r.get hx) fun w hw hr=>?_;have hL:=aN eo;exact ⟨"list",_,hL.typeIs,slot_list_getitem.lookup,wpAny_getItem_list hL h0 hk.2 (by simpa using hw) (aO.now hr x h)⟩
theorem Bl (hl:st.h[i]? =some (.list xs)) (hk:small k) (h0:k<0) (h1: -(xs.length:Int)≤k) (hx:xs[(k+xs.length).toNat]? =some p) (h:K p st):PG C (.ref i) (.int k) st K:=fun B T σ s v u x ⟨a,ha,e⟩ ⟨t,e'⟩=>by
 subst e e';refine cH (x.list ha hl) fun vs n eo r=>?_;refine aE (r.get hx) fun w hw hr=>?_;have hL:=aN eo;have hz:(vs.toArray.size:Int)=xs.length:=by rw [cb,r.length]
 exact ⟨"list",_,hL.typeIs,slot_list_getitem.lookup,wpAny_getItem_list_neg hL h0 (by rw [hz];exact h1) hk.1 (by rw [hz];simpa using hw) (aO.now hr x h)⟩
theorem Oc {l:List ak} {n:Nat} {dd:Option Addr} {sl:Array (Option ak)} (hl:C.K.lookup a=some ⟨.type "list",dd, .seq l.toArray n,sl⟩) (hk:small k) (h0:0≤k) (hx:l[k.toNat]? =some (.str z t)) (h:K (.str z) st):PG C (.glob (.ref a)) (.int k) st K:=fun B T σ s v u x e ⟨t,e'⟩=>by cases e;subst e';have hL:=lstK x.topNow.KX hl;exact ⟨"list",_,hL.typeIs,slot_list_getitem.lookup,wpAny_getItem_list hL h0 hk.2 (by simpa using hx) (aO.str x h)⟩
theorem zO (hk:small k) (h1: -(z.length:Int)≤k) (h2:k<z.length) (h:K (.str (mw z k)) st):PG C (.str z) (.int k) st K:=fun B T σ s v u x ⟨t,e⟩ ⟨t',e'⟩=>by
 subst e e';have hr:fitsSsize k=true:=by delta fitsSsize;simp only [la,so,decide_eq_false_iff_not];have:=hk.1;have:=hk.2;simp_all
 refine fW (SB.item (prog:=pw) (w:=C.w) (A:=C.A) (E:=C.E) (s:=s) (x:=z) (t:=t) (u:=t') (Q:=aO C B T VR σ K) (i:=k) hr (charAt_isSome h1 h2) (aO.str (x.tok _) h)) fun T' id hl hT hg=>?_;exact ⟨T',id,hT,hl,hg⟩
def WP (C:Cx) (e:Option dh) (st:St) (K:PV→St→Prop):Prop:=match e with
 |none=>K .none st
 |some e=>WE C e st K
def part:PV→Option (Option Int)
 | .none=>some none
 | .int k=>some (some k)
 |_=>none
theorem WP.run {e:Option dh} (h:WP C e st K) (x:Mt C B T σ st s):bx C.M C.A (evalPart e C.env) (aO C B T VR σ K) C.E s:=by
 cases e with
 |none=>rw [evalPart_none];exact av (aO.none x h)
 |some e=>exact h _ _ _ _ x
theorem kA {o:Option Int} (h:VR σ p v) (e:part p=some o):IsPart v o:=by
 cases p with
 |none=>cases e;cases h;exact .none
 |int k=>cases e;obtain ⟨t,rfl⟩:=h;exact .int _ _
 |_=>cases e
def bH {α:Type} (xs:List α) (lo hi:Option Int):List α:=(xs.drop (lo.elim 0 (clipAt xs.length))).take (hi.elim xs.length (clipAt xs.length) - lo.elim 0 (clipAt xs.length))
theorem cF.drop (h:cF σ ps vs): ∀n,cF σ (ps.drop n) (vs.drop n):=by
 induction h with
 |nil=>intro n;simp;exact .nil
 |cons a r ih=>intro n;cases n with
  |zero=>exact .cons a r
  |succ n=>exact ih n
theorem cF.take (h:cF σ ps vs): ∀n,cF σ (ps.take n) (vs.take n):=by
 induction h with
 |nil=>intro n;simp;exact .nil
 |cons a r ih=>intro n;cases n with
  |zero=>exact .nil
  |succ n=>exact .cons a (ih n)
theorem cF.pick (h:cF σ ps vs) (lo hi:Option Int): ∃us,slicePick vs.toArray lo hi Option.none=us.toArray∧cF σ (bH ps lo hi) us:=by refine ⟨_,slicePick_plain _ _ _,?_⟩;delta bH;rw [cb,h.length];exact (h.drop _).take _
inductive SL (C:Cx) (st:St) (K:PV→St→Prop) (l u:PV) (lo hi:Option Int):PV→Prop
 |list {i:Nat} {xs:List PV}:st.h[i]? =some (.list xs)→xs.length≤big→K (.ref st.h.length) {st with h:=st.h++[.list (bH xs lo hi)]}→SL C st K l u lo hi (.ref i)
 |str {z:Str}:z.length≤big→K (.str (mu z lo hi)) st→SL C st K l u lo hi (.str z)
 |top {a:Addr} {vs:List ak} {n:Nat} {xs:List PV}:C.K.lookup a=some (listOf vs.toArray n)→(∀σ,cF σ xs vs)→xs.length≤big→K (.ref st.h.length) {st with h:=st.h++[.list (bH xs lo hi)]}→SL C st K l u lo hi (.glob (.ref a))
inductive No (C:Cx) (o l u:PV) (st:St) (K:PV→St→Prop):Prop
 |mk {lo hi:Option Int}:part l=some lo→part u=some hi→SL C st K l u lo hi o→No C o l u st K
theorem e_slice {value:dh} {lower upper:Option dh} {p pos:Pos} (h:WE C value st fun o st1=>WP C lower st1 fun l st2=>WP C upper st2 fun u st3=>No C o l u st3 K):WE C (.Subscript value (.Slice lower upper none p) pos) st K:=by
 walk_at "T C,st,K,value,lower,upper,p,pos h";walk_at "I B,T,σ,s x";refine Subscript_ (go (h _ _ _ _ x) fun v s1 τ o st1 h1 h2 h3=>wpAny_Slice ?_);refine go (h3.run h2) fun vl s2 τ2 l st2 k1 k2 k3=>?_;refine go (WP.run k3 k2) fun vu s3 τ3 u st3 l1 l2 l3=>?_;rw [evalPart_none];refine av ?_;have h1':=(h1.mono (τ:=τ2)).mono (τ:=τ3);have k1':=k1.mono (τ:=τ3);obtain y:=l2.junk {cls:= .type "slice",data:= .fields #[vl,vu, .none]};refine bc (Q:=aO C B T VR (σ++τ++τ2++τ3) K) ?_ (fun _ _ r=>r.up.up.up) fun _ _ e=>e;obtain @⟨lo,hi,el,eu,l3⟩:=l3
 suffices go:ItemOn C.M C.A C.E v (.ref s3.heap.objs.size) (aO C B T VR (σ++τ++τ2++τ3) K) {s3 with heap:=s3.heap.push {cls:= .type "slice",data:= .fields #[vl,vu, .none]}} by refine fW (go) fun T' id hl hT hg=>?_;exact tail_any hT hl hg rfl
 have lst: ∀{a:Addr} {vs:List ak} {xs:List PV},Heap.IsList s3.heap a vs.toArray→cF (σ++τ++τ2++τ3) xs vs→xs.length≤big→K (.ref st3.h.length) {st3 with h:=st3.h++[.list (bH xs lo hi)]}→ItemOn C.M C.A C.E (.ref a) (.ref s3.heap.objs.size) (aO C B T VR (σ++τ++τ2++τ3) K) {s3 with heap:=s3.heap.push {cls:= .type "slice",data:= .fields #[vl,vu, .none]}}:=fun {a vs xs} hL r hz hK=>by refine aE (r.pick lo hi) fun us e1 e2=>?_;refine ⟨_,_,list_getitem_lookup,(hL.push _).typeIs,wpAny_getItem_list_slice (hL.push _) (Heap.IsSliceOf.new ..) (kA k1' el) (kA l1 eu) .none (by simp) ?_ (by rw [cb,r.length];exact bF hz)⟩;rw [e1];exact aO.new (Cr y e2) l2.hr.len hK
 cases l3 with
 |list hl hz hK=>refine aE (h1') fun a ha qz2=>?_;subst qz2;refine cH (l2.list ha hl) fun vs n eo r=>?_;exact lst (aN eo) r hz hK
 |@str z hz hK=>
  obtain ⟨t,rfl⟩:=h1';have kp:KeptH fun h=> ∀b o,s3.heap.get? b=some o→h.get? b=some o:=fun h ob kk b o e=>cc ob (kk b o e);have nQ: ∀h' t' k,(∀b o,s3.heap.get? b=some o→h'.get? b=some o)→aO C B T VR (σ++τ++τ2++τ3) K (.str (mu z _ _) t') {s3 with heap:=h',toks:=k}:=fun h' t' k kk=>aO.str (l2.grow k kk) hK;cases kA k1' el<;>cases kA l1 eu
  ·exact SBH.sliceItem_nn kp (fun _ _ e=>e) nQ (bF hz)
  ·exact SBH.sliceItem_ns kp (fun _ _ e=>e) nQ (bF hz)
  ·exact SBH.sliceItem_sn kp (fun _ _ e=>e) nQ (bF hz)
  ·exact SBH.sliceItem_ss kp (fun _ _ e=>e) nQ (bF hz)
 |top hl hv hz hK=>cases h1';exact lst (aN (l2.topGet hl)) (hv _) hz hK
end
end
section
section
variable {x y z:Str}
variable {C:Cx} {st:St} {K:PV→St→Prop} {KB:Bool→St→Prop} {KF:Fl→St→Prop}
theorem t_chain {l r₁ r₂:dh} {op₁ op₂:CmpOp} {pos:Pos} (h:WE C l st fun p st1=>WE C r₁ st1 fun q st2=>P2 C (d0 op₁) p q st2 fun c st3=>PT C c st3 fun b st4=>
   if b=true then WE C r₂ st4 fun r st5=>P2 C (d0 op₂) q r st5 fun c' st6=>PT C c' st6 KB else KB false st4)
  (hm:lastMarks [op₁,op₂] [r₁,r₂]=false:=by with_unfolding_all rfl):WT C (.Compare l [op₁,op₂] [r₁,r₂] pos) st KB:=by
 walk_at "T C,st,KB,l,r₁,r₂,op₁,op₂,pos h hm";walk_at "I B,T,σ,s x";refine isTrue_chain (go (h _ _ _ _ x) fun v s1 τ p st1 h1 h2 h3=>?_) hm;refine test_link (go (h3 _ _ _ _ h2) fun u s2 τ2 q st2 k1 k2 k3=>?_);refine go (k3 _ _ _ _ v u k2 h1.mono k1) fun c s3 τ3 c' st3 l1 l2 l3=>?_;refine go (l3 _ _ _ _ c l2 l1) fun b s4 τ4 b' st4 m1 m2 m3=>?_;cases m1;cases b with
 |false=>simp only [bu,if_false] at m3 ⊢;exact aO.up (aO.up (aO.up ⟨τ4,false,st4,rfl,m2,m3⟩))
 |true=>simp only [if_true] at m3 ⊢;refine test_last (go (m3 _ _ _ _ m2) fun w s5 τ5 r st5 n1 n2 n3=>?_);refine go (n3 _ _ _ _ u w n2 k1.mono.mono.mono n1) fun c2 s6 τ6 c2' st6 o1 o2 o3=>?_;exact gH (gH (gH (gH (gH (gH (o3 _ _ _ _ c2 o2 o1))))))
theorem rJ {i:Int} (h0:0≤i) (h1:i≤1114111) (h:K (.str (dO i.toNat)) st):PC C (.builtin "chr") [.int i] st K:=fun B T σ s vs x hv=>by
 cases hv with|cons a r=>cases r;obtain ⟨t,rfl⟩:=a;exact chr_of_range h0 h1 (aO.str (x.tok _) h)
theorem yS (h1:z.length=1) (h:K (.int (z.cps.getD 0 0:Nat)) st):PC C (.builtin "ord") [.str z] st K:=fun B T σ s vs x hv=>by
 cases hv with|cons a r=>cases r;obtain ⟨t,rfl⟩:=a;exact ord_of_one h1 (aO.int (x.tok _) h)
theorem qY {n:Nat} (h:n≤big):(n:Int)<2^63:=Df h
theorem iW {z:Str} (hz:z.length≤big) (h:K (.int z.length) st):PC C (.builtin "len") [.str z] st K:=by
 walk_at "T C,st,K,z hz h";walk_at "I B,T,σ,s,vs x hv";cases hv with|cons a r=>cases r;obtain ⟨t,rfl⟩:=a;exact PySem.P.len_str (Int.not_le.mpr (qY hz)) (aO.int (x.tok _) h)
theorem oA {i:Nat} {xs:List PV} (hl:st.h[i]? =some (.list xs)) (hz:xs.length≤big) (h:K (.int xs.length) st):PC C (.builtin "len") [.ref i] st K:=by
 walk_at "T C,st,K,i,xs hl hz h";walk_at "I B,T,σ,s,vs x hv";cases hv with|cons a r=>
  cases r;obtain ⟨a,ha,rfl⟩:=a;refine cH (x.list ha hl) fun us n e r=>?_;have hs:us.toArray.size=xs.length:=by rw [cb,r.length]
  refine call_len_list (aN e) (by rw [hs];exact qY hz) ?_;rw [hs];exact aO.int (x.tok _) h
theorem c_ins (h:K (.bool (o7 x y)) st):P2 C (d0 .In) (.str y) (.str x) st K:=P2.ss fun B T σ s _ _ m=>by with_reducible exact SB.contains (aO.bool m h)
theorem c_nins (h:K (.bool (!Txt.contains x y)) st):P2 C (d0 .NotIn) (.str y) (.str x) st K:=P2.ss fun B T σ s _ _ m=>by with_reducible exact SB.notContains (aO.bool m h)
theorem tR (hz:z.length≤big) (h:KB ((z.length:Int) != 0) st):PT C (.str z) st KB:=fun B T σ s v x ⟨t,e⟩=>by subst e;exact SBL.truthy (qY hz) (aO.now rfl (x.tok _) h)
end
variable {C:Cx}{e:dh}{st:St}
theorem aO.imp {B:Heap} {T:List Addr} {α β:Type} {R:List Addr→β→α→Prop} {σ:List Addr} {K K':β→St→Prop} {a:α} {s':az} (h:aO C B T R σ K a s') (k: ∀b st,K b st→K' b st):aO C B T R σ K' a s':=
 let ⟨τ,b,st',h1,h2,h3⟩:=h;⟨τ,b,st',h1,h2,k _ _ h3⟩
theorem WE.mono {K K':PV→St→Prop} (h:WE C e st K) (k: ∀b st,K b st→K' b st):WE C e st K':=fun B T σ s x=>bc (h _ _ _ _ x) (fun _ _ r=>r.imp k) fun _ _ e=>e
theorem WT.mono {K K':Bool→St→Prop} (h:WT C e st K) (k: ∀b st,K b st→K' b st):WT C e st K':=fun B T σ s x=>bc (h _ _ _ _ x) (fun _ _ r=>r.imp k) fun _ _ e=>e
theorem W1.mono {e:iy} {K K':Fl→St→Prop} (h:W1 C e st K) (k: ∀b st,K b st→K' b st):W1 C e st K':=fun B T σ s x=>bc (h _ _ _ _ x) (fun _ _ r=>r.imp k) fun _ _ e=>e
theorem WT.val {KB:Bool→St→Prop} (c:Bool) (h:WT C e st fun b st'=>b=c∧st'=st) (k:KB c st):WT C e st KB:=h.mono fun _ _ q=>by rw [q.1,q.2];exact k
def aD (i:Nat):iy:=pw.main.body.getD i default
def aX:iy→List iy
 | .FunctionDef _ _ b _ _ _ _ _ _ _=>b
 |_=>[]
def aU:iy→im
 | .FunctionDef _ _ _ _ _ _ s _ _ _=>s
 |_=>default
def aP:iy→Arguments
 | .FunctionDef _ p _ _ _ _ _ _ _ _=>p
 |_=>default
section
variable {C:Cx} {st:St} {K:PV→St→Prop}
theorem Ho {f:Addr} {params:Arguments} {body:List iy} {scope:im} {dV:ak} {ps:List PV} (ns locals:List Str) (F:Cc C.K f params body scope dV) (hroom:C.A.depth<recursionLimit)
  (hn:ns.length=ps.length)
  (hb: ∀name qual kV doc pm an cdv ct (vs:List ak),vs.length=ns.length→bindArgs (fnOf name qual params body scope dV kV doc pm an cdv ct) ⟨vs,[]⟩=pure (ns.zip vs))
  (hnd:(ns++locals).Nodup) (hkind:(ns.all fun x=>scope.names.lookup x==some .local||(scope.names.lookup x==some .cell&&(bD scope).contains x))=true)
  (hw: ∀name qual kV doc pm an cdv ct L,WS (C.fn (fnOf name qual params body scope dV kV doc pm an cdv ct) L f (iM (ns++locals)) fun _ _=>False) body ⟨ps.map some++locals.map (fun _=>none),st.h⟩ fun fl st2=>K (iL fl) ⟨st.v,st2.h⟩)
  (hnc:(bD scope).Nodup:=by decide+kernel) (hco:scope.isCoroutine=false:=by rfl) (hgen:scope.isGenerator=false:=by rfl) (hk:scope.kind= .function:=by rfl):He C (.ref f) ps st K:=by
 have e1:(ns.zip ps).map (·.1)=ns:=jj (dg hn);have e2:(ns.zip ps).map (·.2)=ps:=ji (dg hn.symm);obtain e3:(ns.zip ps).map (fun b=>some b.2)=ps.map some:=by rw [←e2,cw];simp only [e2];rfl
 refine rZ locals F hroom (fun name qual kV doc pm an cdv ct=>Jh hn (fun vs hv=>hb name qual kV doc pm an cdv ct vs (hv.trans hn.symm)) ⟨by rw [e1];exact hnd,fun x hx=>?_,fun L=>?_⟩) hnc hco hgen hk
 ·rw [e1] at hx
  have:=f9.mp hkind x hx;simp only [gj,beq_iff_eq,bt,ei] at this;refine this.imp id fun h=>⟨h.1,fun n=>?_⟩;obtain hk:x∈(cellsFrom n scope.names []).map (·.1):=by rw [fS,pg];exact h.2
  cases e:(cellsFrom n scope.names []).lookup x with
  |some c=>rfl
  |none=>refine nn fun gg=>?_;obtain ⟨⟨m,d⟩,hm,e'⟩:=ap.mp hk;refine gg ?_;have:=jk.mp e _ hm;obtain e':m=x:=e';simp [e'] at this
 ·rw [e1,e3];exact hw name qual kV doc pm an cdv ct L
end
end
section
variable {C:Cx}{L f:Addr}{P Q:Prop}{fd:FuncData}{m n:Nat}{vis:List (Str×Nat)}{α:Type}
def bK (K:Frag) (f:Addr) (i:Nat) (dV:ak):Prop:=Cc K f (aP (aD i)) (aX (aD i)) (aU (aD i)) dV
def Os (d:Nat):Nat:=if d<10 then 48+d else 55+d
def tH (k:Nat):Str:=⟨#[61,Os (k/ 16),Os (k%16)]⟩
def cW (k:Nat):Str:=if (k==9||(decide (32≤k)&&decide (k<127)&&k != 61))=true then dO k else tH k
def Oh (k:Nat):Bool:=(decide (48≤k)&&decide (k≤57))||(decide (65≤k)&&decide (k≤90))||(decide (97≤k)&&decide (k≤122))||k==45||k==33||k==42||k==43||k==47
def lI (k:Nat):Str:=if Oh k=true then dO k else if (k==32)=true then ⟨#[95]⟩ else tH k
def aG (k:Nat):Str:=if (k==10||k==13)=true then dO k else cW k
inductive dZ (K:Frag) (a:Addr) (f:Nat→Str):Prop
 |mk (dd:Option Addr) (l:List ak) (n:Nat) (sl:Array (Option ak)) (e:K.lookup a=some ⟨.type "list",dd, .seq l.toArray n,sl⟩) (hl:l.length=256) (h: ∀k<256, ∃t,l[k]? =some (.str (f k) t)):dZ K a f
inductive rL (K:Frag) (a:Addr) (b:Tok→Tok→Array ak):Prop
 |mk (oc:ak) (dd:Option Addr) (n:Nat) (sl:Array (Option ak)) (t u:Tok) (e:K.lookup a=some ⟨oc,dd, .seq (b t u) n,sl⟩):rL K a b
def fB (K:Frag) (x:Str) (v:ak):Prop:=nsIn K ca x=some (some v)
def mV:List (Str×ak):=[("chr", .builtin "chr"),("len", .builtin "len"),("ord", .builtin "ord"),("max", .builtin "max"),("sum", .builtin "sum"),("sorted", .builtin "sorted"),("iter", .builtin "iter"),("range", .type "range"),("int", .type "int"),("tuple", .type "tuple"),("bool", .type "bool"),("set", .type "set"),("ValueError", .type "ValueError"),("IndexError", .type "IndexError"),("StopIteration", .type "StopIteration")]
theorem fn {P:α→Prop}: ∀q∈([]:List α),P q:=fun q h=>nomatch h
theorem fc {P:α→Prop} {a:α} {l:List α} (h:P a) (k: ∀q∈l,P q): ∀q∈a::l,P q:=nv.mpr ⟨h,k⟩
structure Kn (K:Frag):Prop where
 blt: ∀x∈mV.map Prod.fst,nsIn K ca x=some none
 f_header_check:fB K "header_check" (.ref 44)∧fy K (.ref 44)=true∧bK K 44 15 .none
 f_body_check:fB K "body_check" (.ref 51)∧fy K (.ref 51)=true∧bK K 51 16 .none
 f_unquote:fB K "unquote" (.ref 58)∧fy K (.ref 58)=true∧bK K 58 17 .none
 f_quote:fB K "quote" (.ref 65)∧fy K (.ref 65)=true∧bK K 65 18 .none
 f_body_encode:fB K "body_encode" (.ref 78)∧fy K (.ref 78)=true∧bK K 78 22 (.ref 71)
 f_decode:fB K "decode" (.ref 86)∧fy K (.ref 86)=true∧bK K 86 23 (.ref 79)
 f_sorted_list_difference:fB K "sorted_list_difference" (.ref 213)∧fy K (.ref 213)=true∧bK K 213 31 .none
 f_law_texts:fB K "_law_texts" (.ref 218)∧fy K (.ref 218)=true∧bK K 218 33 .none
 f_law_needs:fB K "_law_needs" (.ref 223)∧fy K (.ref 223)=true∧bK K 223 34 .none
 f_law_run:fB K "_law_run" (.ref 230)∧fy K (.ref 230)=true∧bK K 230 35 .none
 f_law_told:fB K "_law_told" (.ref 235)∧fy K (.ref 235)=true∧bK K 235 36 .none
 f_law_coded:fB K "_law_coded" (.ref 242)∧fy K (.ref 242)=true∧bK K 242 37 .none
 f_law_rows:fB K "_law_rows" (.ref 247)∧fy K (.ref 247)=true∧bK K 247 38 .none
 f_law_lacking:fB K "_law_lacking" (.ref 254)∧fy K (.ref 254)=true∧bK K 254 39 .none
 f_law:fB K "law" (.ref 259)∧fy K (.ref 259)=true∧bK K 259 40 .none
 c_NodeInfo:fB K "_NodeInfo" (.ref 105)∧fy K (.ref 105)=true
 c_TopologicalSorter:fB K "TopologicalSorter" (.ref 202)∧fy K (.ref 202)=true
 l_quopri_map:fB K "_QUOPRI_MAP" (.ref 24)∧dZ K 24 tH
 l_quopri_header_map:fB K "_QUOPRI_HEADER_MAP" (.ref 29)∧dZ K 29 lI
 l_quopri_body_map:fB K "_QUOPRI_BODY_MAP" (.ref 31)∧dZ K 31 cW
 l_quopri_body_encode_map:fB K "_QUOPRI_BODY_ENCODE_MAP" (.ref 67)∧dZ K 67 aG
 s_hexdigits: ∃t,fB K "hexdigits" (.str "0123456789abcdefABCDEF" t)
 s_crlf: ∃t,fB K "CRLF" (.str "\r\n" t)
 i_out: ∃t,fB K "_NODE_OUT" (.int (-1) t)
 i_done: ∃t,fB K "_NODE_DONE" (.int (-2) t)
 d71:rL K 71 fun t u=>#[.int 76 t, .str "\n" u]
 d79:rL K 79 fun _ u=>#[.str "\n" u]
structure bS (C:Cx) (n:Nat):Prop where
 hn:C.A.handled=none
 dep:C.A.depth+n+1<recursionLimit
 un:C.A.units+3*n+200<cLine
 kn:Kn C.K
theorem bS.room (S:bS C n):C.A.depth<recursionLimit:=by have:=S.dep;exact aQ 0x4c419894142861 33 [_,_,_] this
theorem bS.fn (S:bS C (n+1)) {E:ak→az→Prop}:bS (C.fn fd L f vis E) n:=
 ⟨S.hn,by have:=S.dep;show C.A.depth+1+n+1<_;exact aQ 0x2635050a128280cc6a0a14a0a041 33 [_,_,_] this,by have:=S.un;show C.A.units+3+3*n+200<_;exact aQ 0x98d400190950e0250d0198d400190950e0a0a041 33 [_,_,_] this,S.kn⟩
theorem bS.blk (S:bS C n) {scope:im} {own:List Str}:bS (C.blk scope own m L) n:=⟨S.hn,S.dep,S.un,S.kn⟩
theorem bS.less (S:bS C n) (h:m≤n):bS C m:=⟨S.hn,by have:=S.dep;exact aW 0x4c6a0a1420c88298d4142881 1057 [_,_,_,_] h this,by have:=S.un;exact aW 0x131a8003212a1c041910531a8003212a1c081 3105 [_,_,_,_] h this,S.kn⟩
theorem bS.qf (S:bS C n):(C.fn fd L f vis fun _ _=>False).Quiet:=⟨S.hn,fun _ _ e=>e⟩
theorem aY {b:Bool} (h:b=true→P) (k:b=false→Q):if b=true then P else Q:=by
 cases b with
 |true=>rw [if_pos rfl];exact h rfl
 |false=>rw [if_neg gp];exact k rfl
theorem ite_tt (h:P):if true=true then P else Q:=by rw [if_pos rfl];exact h
theorem ite_ff (h:Q):if false=true then P else Q:=by rw [if_neg gp];exact h
section
variable {a f:Addr}{body:List iy}{dV v:ak}{e:dh}{np:Pos}{params:Arguments}{ps:List PV}{rest:List dh}{scope:im}{x:Str}
variable {C:Cx} {st:St} {K:PV→St→Prop} {n:Nat} {pos:Pos}
def La:List (Str×ak):=[("header_check", .ref 44),("body_check", .ref 51),("unquote", .ref 58),("quote", .ref 65),("body_encode", .ref 78),("decode", .ref 86),("sorted_list_difference", .ref 213),("_law_texts", .ref 218),("_law_needs", .ref 223),("_law_run", .ref 230),("_law_told", .ref 235),("_law_coded", .ref 242),("_law_rows", .ref 247),("_law_lacking", .ref 254),("_NodeInfo", .ref 105),("TopologicalSorter", .ref 202),("_QUOPRI_MAP", .ref 24),("_QUOPRI_HEADER_MAP", .ref 29),("_QUOPRI_BODY_MAP", .ref 31),("_QUOPRI_BODY_ENCODE_MAP", .ref 67)]
def Kz:List (Str×Addr):=[("header_check",44),("body_check",51),("unquote",58),("quote",65),("body_encode",78),("decode",86),("sorted_list_difference",213),("_law_texts",218),("_law_needs",223),("_law_run",230),("_law_told",235),("_law_coded",242),("_law_rows",247),("_law_lacking",254),("_NodeInfo",105)]
theorem Ch: ∀q∈mV,bootBuiltins q.1=some q.2∧q.1≠"__name__":=by decide+kernel
theorem sO:(∀q∈mV,(q.1==("__debug__":Str))=false)∧(∀q∈La,(q.1==("__debug__":Str))=false)∧ ∀q∈Kz,(q.1==("__debug__":Str))=false:=by decide+kernel
theorem Kn.gl {K:Frag} (k:Kn K): ∀q∈La,fB K q.1 q.2:=fc k.f_header_check.1 (fc k.f_body_check.1 (fc k.f_unquote.1 (fc k.f_quote.1 (fc k.f_body_encode.1 (fc k.f_decode.1 (fc k.f_sorted_list_difference.1 (fc k.f_law_texts.1 (fc k.f_law_needs.1 (fc k.f_law_run.1 (fc k.f_law_told.1 (fc k.f_law_coded.1 (fc k.f_law_rows.1 (fc k.f_law_lacking.1 (fc k.c_NodeInfo.1 (fc k.c_TopologicalSorter.1 (fc k.l_quopri_map.1 (fc k.l_quopri_header_map.1 (fc k.l_quopri_body_map.1 (fc k.l_quopri_body_encode_map.1 (fn))))))))))))))))))))
theorem Kn.fl {K:Frag} (k:Kn K): ∀q∈Kz,fB K q.1 (.ref q.2)∧fy K (.ref q.2)=true:=fc ⟨k.f_header_check.1,k.f_header_check.2.1⟩ (fc ⟨k.f_body_check.1,k.f_body_check.2.1⟩ (fc ⟨k.f_unquote.1,k.f_unquote.2.1⟩ (fc ⟨k.f_quote.1,k.f_quote.2.1⟩ (fc ⟨k.f_body_encode.1,k.f_body_encode.2.1⟩ (fc ⟨k.f_decode.1,k.f_decode.2.1⟩ (fc ⟨k.f_sorted_list_difference.1,k.f_sorted_list_difference.2.1⟩ (fc ⟨k.f_law_texts.1,k.f_law_texts.2.1⟩ (fc ⟨k.f_law_needs.1,k.f_law_needs.2.1⟩ (fc ⟨k.f_law_run.1,k.f_law_run.2.1⟩ (fc ⟨k.f_law_told.1,k.f_law_told.2.1⟩ (fc ⟨k.f_law_coded.1,k.f_law_coded.2.1⟩ (fc ⟨k.f_law_rows.1,k.f_law_rows.2.1⟩ (fc ⟨k.f_law_lacking.1,k.f_law_lacking.2.1⟩ (fc ⟨k.c_NodeInfo.1,k.c_NodeInfo.2⟩ (fn)))))))))))))))
theorem e_B (S:bS C n) (ht:mV.lookup x=some v) (h:K (.glob v) st) (hx:C.env.kindOf x=some .globalImplicit:=by rfl):WE C (.Name x pos) st K:=
 have hm:=List.mem_of_lookup_eq_some' ht
 Fj (S.kn.blt _ (du (f:=Prod.fst) hm)) (Ch _ hm).1 h (Ch _ hm).2 hx (sO.1 _ hm)
theorem e_G (S:bS C n) (ht:La.lookup x=some v) (h:K (.glob v) st) (hx:C.env.kindOf x=some .globalImplicit:=by rfl):WE C (.Name x pos) st K:=
 have hm:=List.mem_of_lookup_eq_some' ht
 wK (S.kn.gl _ hm) h hx (sO.2.1 _ hm)
theorem Gb: ∀q∈mV,(∃id,q.2= .builtin id)∨ ∃id,q.2= .type id:=fc (.inl ⟨_,rfl⟩) (fc (.inl ⟨_,rfl⟩) (fc (.inl ⟨_,rfl⟩) (fc (.inl ⟨_,rfl⟩) (fc (.inl ⟨_,rfl⟩) (fc (.inl ⟨_,rfl⟩) (fc (.inl ⟨_,rfl⟩) (fc (.inr ⟨_,rfl⟩) (fc (.inr ⟨_,rfl⟩) (fc (.inr ⟨_,rfl⟩) (fc (.inr ⟨_,rfl⟩) (fc (.inr ⟨_,rfl⟩) (fc (.inr ⟨_,rfl⟩) (fc (.inr ⟨_,rfl⟩) (fc (.inr ⟨_,rfl⟩) (fn)))))))))))))))
theorem cl_B (S:bS C n) (ht:mV.lookup x=some v) (h:WA C pos (e::rest) st (Rg v C K)) (hx:C.env.kindOf x=some .globalImplicit:=by rfl)
  (he:eval (.Call (.Name x np) (e::rest) [] pos) C.env=(do callWith pos (←eval (.Name x np) C.env) [] (backTo pos (b0 (e::rest) C.env)) (backToKw pos (ej [] C.env))):=by rfl)
  (hz:b0 (e::rest) C.env=(false,eval e C.env)::b0 rest C.env:=by rfl) (hp:(backTo pos (b0 rest C.env)).any (·.1)=false:=by rfl):WE C (.Call (.Name x np) (e::rest) [] pos) st K:=by
 rcases Gb _ (List.mem_of_lookup_eq_some' ht) with ⟨id,e⟩|⟨id,e⟩<;>cases e
 ·exact Gk (e_B S ht ⟨rfl,h⟩ hx) he hz hp
 ·exact Gl (e_B S ht ⟨rfl,h⟩ hx) he hz hp
theorem cl_G (S:bS C n) (ht:Kz.lookup x=some a) (h:WA C pos (e::rest) st (Rg (.ref a) C K)) (hx:C.env.kindOf x=some .globalImplicit:=by rfl)
  (he:eval (.Call (.Name x np) (e::rest) [] pos) C.env=(do callWith pos (←eval (.Name x np) C.env) [] (backTo pos (b0 (e::rest) C.env)) (backToKw pos (ej [] C.env))):=by rfl)
  (hz:b0 (e::rest) C.env=(false,eval e C.env)::b0 rest C.env:=by rfl) (hp:(backTo pos (b0 rest C.env)).any (·.1)=false:=by rfl):WE C (.Call (.Name x np) (e::rest) [] pos) st K:=
 have hm:=List.mem_of_lookup_eq_some' ht;have k:=S.kn.fl _ hm
 Gm k.2 (wK k.1 ⟨rfl,h⟩ hx (sO.2.2 _ hm)) he hz hp
theorem nm_hexdigits (S:bS C n) (h:K (.str "0123456789abcdefABCDEF") st) (hx:C.env.kindOf ("hexdigits":Str)=some .globalImplicit:=by rfl):WE C (.Name "hexdigits" pos) st K:=let ⟨_,e⟩:=S.kn.s_hexdigits;yQ e h hx (by decide)
theorem nm_CRLF (S:bS C n) (h:K (.str "\r\n") st) (hx:C.env.kindOf ("CRLF":Str)=some .globalImplicit:=by rfl):WE C (.Name "CRLF" pos) st K:=let ⟨_,e⟩:=S.kn.s_crlf;yQ e h hx (by decide)
theorem nm_NODE_OUT (S:bS C n) (h:K (.int (-1)) st) (hx:C.env.kindOf ("_NODE_OUT":Str)=some .globalImplicit:=by rfl):WE C (.Name "_NODE_OUT" pos) st K:=let ⟨_,e⟩:=S.kn.i_out;zA e h hx (by decide)
theorem nm_NODE_DONE (S:bS C n) (h:K (.int (-2)) st) (hx:C.env.kindOf ("_NODE_DONE":Str)=some .globalImplicit:=by rfl):WE C (.Name "_NODE_DONE" pos) st K:=let ⟨_,e⟩:=S.kn.i_done;zA e h hx (by decide)
theorem wH {f:Nat→Str} {k:Nat} (L:dZ C.K a f) (hk:k<256) (h:K (.str (f k)) st):PG C (.glob (.ref a)) (.int k) st K:=by obtain ⟨dd,l,m,sl,hl,hz,hf⟩:=L;obtain ⟨t,ht⟩:=hf k hk;exact Oc hl ⟨by simp,Df (de hk)⟩ (by exact bi _) (by simpa using ht) h
inductive Nj (K:(Nat→List PO→Option (Option PV))→St→Prop) (p:PV) (st:St):Prop
 |mk (m:Nat) (h1:p= .int m) (h2:m≤1000000) (k:K (nZ m) st):Nj K p st
theorem bP {np:Pos} {e:dh} {KK:(Nat→List PO→Option (Option PV))→St→Prop} (S:bS C n) (hq:C.Quiet) (h:WE C e st (Nj KK)) (hx:C.env.kindOf ("range":Str)=some .globalImplicit:=by rfl)
  (he:eval (.Call (.Name ("range":Str) np) [e] [] pos) C.env=(do callWith pos (←eval (.Name ("range":Str) np) C.env) [] (backTo pos (b0 [e] C.env)) (backToKw pos (ej [] C.env))):=by rfl)
  (hz:b0 [e] C.env=(false,eval e C.env)::b0 [] C.env:=by rfl):tJ C (.Call (.Name "range" np) [e] [] pos) st KK:=by
 walk_at "T C,st,n,pos,np,e,KK S hq h hx he hz";walk_at "I B,T,σ,s,Q,E1,E2 x hQ";refine Call_ (bc (e_B (K:=fun p st'=>p= .glob (.type "range")∧st'=st) S rfl ⟨rfl,rfl⟩ hx _ _ _ _ x) (fun f s1 hrz=>hrz.el2 fun τ p st1 h1 h2 hp1 hp2=>?_) fun e s' he=>(hq.2 e s' he).elim) he;subst hp1 hp2;cases h1;refine om ?_ hz rfl;refine args_cons (bc (h _ _ _ _ h2) (fun v s2 hzz=>hzz.el fun τ2 p st2 k1 k2 hzy=>?_) fun e s' he=>(hq.2 e s' he).elim) hz;obtain ⟨m,hm,hz,hK⟩:=hzy;subst hm;obtain ⟨t,rfl⟩:=k1;refine args_nil (call_range_1 ?_);obtain ⟨g1,g2⟩:=wC hz;refine wpAny_pyIter_range (IsRange.new ..) g1 ?_;have y:=k2.grow (h':=s2.heap.push {cls:= .type "range",data:= .fields #[.int 0 s2.toks, .int m t, .int 1 (s2.toks+1)]}) (s2.toks+1+1) fun b o e=>cc _ e;rw [aa] at y;exact hQ _ _ _ _ _ _ y hK rfl (Cy hq.1) ⟨cz _,by rw [g2];simp⟩
structure Zs where
 (name qual:Str) (kV doc pm:ak) (an:Option Addr) (cdv ct:ak) (L:Addr)
theorem neZ:Nonempty Zs:=⟨⟨default,default, .none, .none, .none,none, .none, .none,0⟩⟩
def Fz (params:Arguments) (body:List iy) (scope:im) (dV:ak) (f:Addr) (ns:List Str) (C:Cx) (z:Zs):Cx:=C.fn (fnOf z.name z.qual params body scope dV z.kV z.doc z.pm z.an z.cdv z.ct) z.L f (iM ns) fun _ _=>False
theorem Jr (S:bS C (n+1)) (ns locals:List Str) (F:Cc C.K f params body scope dV)
  (hn:ns.length=ps.length)
  (hb: ∀name qual kV doc pm an cdv ct (vs:List ak),vs.length=ns.length→bindArgs (fnOf name qual params body scope dV kV doc pm an cdv ct) ⟨vs,[]⟩=pure (ns.zip vs))
  (hnd:(ns++locals).Nodup) (hkind:(ns.all fun x=>scope.names.lookup x==some .local||(scope.names.lookup x==some .cell&&(bD scope).contains x))=true)
  (hw: ∀zq:Zs,bS (Fz params body scope dV f (ns++locals) C zq) n→WS (Fz params body scope dV f (ns++locals) C zq) body ⟨ps.map some++locals.map (fun _=>none),st.h⟩ fun fl st2=>K (iL fl) ⟨st.v,st2.h⟩)
  (hnc:(bD scope).Nodup:=by decide+kernel) (hco:scope.isCoroutine=false:=by rfl) (hgen:scope.isGenerator=false:=by rfl) (hk:scope.kind= .function:=by rfl):He C (.ref f) ps st K:=
 Ho ns locals F S.room hn hb hnd hkind (fun name qual kV doc pm an cdv ct L=>hw ⟨name,qual,kV,doc,pm,an,cdv,ct,L⟩ S.fn) hnc hco hgen hk
theorem jO (S:bS C (n+1)) (ns locals:List Str) (F:Cc C.K f params body scope dV)
  (hn:ns.length=ps.length)
  (hb: ∀name qual kV doc pm an cdv ct (vs:List ak),vs.length=ns.length→bindArgs (fnOf name qual params body scope dV kV doc pm an cdv ct) ⟨vs,[]⟩=pure (ns.zip vs))
  (hnd:(ns++locals).Nodup) (hkind:(ns.all fun x=>scope.names.lookup x==some .local||(scope.names.lookup x==some .cell&&(bD scope).contains x))=true)
  (hw: ∀zq:Zs,bS (Fz params body scope dV f (ns++locals) C zq) n→WS (Fz params body scope dV f (ns++locals) C zq) body ⟨ps.map some++locals.map (fun _=>none),st.h⟩ fun fl st2=>K (iL fl) ⟨st.v,st2.h⟩)
  (hnc:(bD scope).Nodup:=by decide+kernel) (hco:scope.isCoroutine=false:=by rfl) (hgen:scope.isGenerator=false:=by rfl) (hk:scope.kind= .function:=by rfl):PC C (.ref f) ps st K:=(Jr S ns locals F hn hb hnd hkind hw hnc hco hgen hk).pc
end
end
section
open PySem.Builtin PySem.Builtin.Str
section
variable {B:Heap}{T σ:List Addr}{T' id:String}{apos pos:Pos}{e o:dh}{i:Nat}{l:List Str}{name:Str}{s:az}{xs:List PV}
variable {C:Cx} {st:St} {K:PV→St→Prop} {KB:Bool→St→Prop} {KF:Fl→St→Prop} {n:Nat}
theorem iH {j:Nat} {ys:List PV} (hi:st.h[i]? =some (.list xs)) (hj:st.h[j]? =some (.list ys)) (hz:xs.length+ys.length≤big) (h:K (.ref st.h.length) {st with h:=st.h++[.list (xs++ys)]}):P2 C (binaryOp .Add) (.ref i) (.ref j) st K:=fun B T σ s v u x ⟨a,ha,e⟩ ⟨b,hb,f⟩=>by
 subst e f;refine cH (x.list ha hi) fun vs n1 e1 r1=>?_;refine cH (x.list hb hj) fun us n2 e2 r2=>?_;refine PySem.P.add_list e1 e2 ?_ (by simp only [cb,r1.length,r2.length];exact bF hz);obtain e:vs.toArray++us.toArray=(vs++us).toArray:=by simp
 rw [e];exact aO.new (Cr x (r1.append r2)) x.hr.len h
theorem yL (hi:st.h[i]? =some (.list xs)) (hz:xs.length≤big) (h:KB (!xs.isEmpty) st):PT C (.ref i) st KB:=fun B T σ s v x ⟨a,ha,e⟩=>by
 subst e;refine cH (x.list ha hi) fun vs n1 e1 r1=>?_;have hs:vs.toArray.size=xs.length:=by rw [cb,r1.length]
 refine wpAny_truthy_list (aN e1) (by rw [hs];exact qY hz) ?_;have e:(!vs.toArray.isEmpty)= !xs.isEmpty:=by cases r1<;>simp
 rw [e];exact aO.now rfl (x.tok _) h
def Jb (p:PV) (h:List PO) (T:String):Prop:=match p with
 | .str _=>T="str"
 | .ref i=> ∃xs,h[i]? =some (.list xs)∧T="list"
 |_=>False
theorem Jb.of {p:PV} {v:ak} (t:Jb p st.h T') (x:Mt C B T σ st s) (hv:VR σ p v):s.TypeIs v T'∧ ∀a,v= .ref a→ ∃ob,s.heap.get? a=some ob∧ob.dict=none:=by
 cases p with
 |str z=>obtain ⟨u,rfl⟩:=hv;cases t;exact ⟨typeIs_str _ _ _,fun a e=>by cases e⟩
 |ref i=>refine aE (hv) fun a ha qz2=>?_;subst qz2;refine aE (t) fun xs hl qz2=>?_;subst qz2;refine cH (x.list ha hl) fun vs n1 e1 r1=>?_;exact ⟨(aN e1).typeIs,fun b e=>by cases e;exact ⟨_,e1,rfl⟩⟩
 |_=>exact t.elim
theorem e_meth1 {rest:List dh} (pa:PlainAttrs T') (slot:Slot T' name id) (hty:typeOf (.builtin id)=pure (.type "method_descriptor"))
  (h:WE C o st fun p st1=>Jb p st1.h T'∧WA C pos (e::rest) st1 fun ps st2=>PC C (.builtin id) (p::ps) st2 K)
  (hbase:ij o name C.env (eval o C.env)=eval o C.env:=by kernel_rfl)
  (hfew:((backTo pos (b0 (e::rest) C.env)).all (fun x=> !x.1)&&(backToKw pos (ej [] C.env)).all (fun x=>x.1.isSome)
   &&decide ((e::rest).length+([]:List Keyword).length+(if ([]:List Keyword).isEmpty then 0 else 1)<30))=true:=by kernel_rfl) (hline:(apos.endLine==pos.line)=true:=by rfl)
  (he:b0 (e::rest) C.env=(false,eval e C.env)::b0 rest C.env:=by rfl) (hp:(backTo pos (b0 rest C.env)).any (·.1)=false:=by rfl):WE C (.Call (.Attribute o name apos) (e::rest) [] pos) st K:=fun B T σ s x=>by
 refine wpAny_Call_method_lateS hbase hfew hline (bc (h _ _ _ _ x) (fun v s1 hrz=>hrz.el2 fun τ p st1 h1 h2 h3 h4=>?_) fun _ _ e=>e);obtain ⟨t1,t2⟩:=h3.of h2 h1;refine ⟨T',id,pa,slot,hty,t1,t2,ny (go (h4 _ _ _ _ h2) fun vs s2 τ' ps st2 k1 k2 k3=>?_) he hp⟩;exact gH (gH (k3 _ _ _ _ (v::vs) k2 (.cons h1.mono k1)))
theorem e_meth0 (pa:PlainAttrs T') (slot:Slot T' name id) (hty:typeOf (.builtin id)=pure (.type "method_descriptor"))
  (h:WE C o st fun p st1=>Jb p st1.h T'∧PC C (.builtin id) [p] st1 K)
  (hbase:ij o name C.env (eval o C.env)=eval o C.env:=by kernel_rfl) (hline:(apos.endLine==pos.line)=true:=by rfl):WE C (.Call (.Attribute o name apos) [] [] pos) st K:=fun B T σ s x=>by
 refine wpAny_Call_method_lateS hbase rfl hline (bc (h _ _ _ _ x) (fun v s1 hrz=>hrz.el2 fun τ p st1 h1 h2 h3 h4=>?_) fun _ _ e=>e);obtain ⟨t1,t2⟩:=h3.of h2 h1;refine ⟨T',id,pa,slot,hty,t1,t2,nz ?_⟩;exact gH (h4 _ _ _ _ [v] h2 (.cons h1 .nil))
theorem s_expr (h:WE C e st (Ng KF)) (hi:interactive C.env=false:=by rfl) (hs:swapsWith e none pos.line C.env=pure false:=by rfl):W1 C (.Expr e pos) st KF:=fun B T σ s x=>
 wpAny_Expr_any (go (h _ _ _ _ x) fun v s1 τ p st1 h1 h2 h3=>⟨τ, .next,st1,rfl,h2,h3⟩) hi hs
theorem eP {i:Nat} {xs:List PV} {p:PV} (hi:st.h[i]? =some (.list xs)) (hz:xs.length≤big) (h:K .none {st with h:=st.h.set i (.list (xs++[p]))}):PC C (.builtin "list.append") [.ref i,p] st K:=by
 walk_at "T C,st,K,i,xs,p hi hz h";walk_at "I B,T,σ,s,vs x hv";cases hv with|cons a r=>cases r with|cons b r=>
  cases r;obtain ⟨a,ha,rfl⟩:=a;exact Gg x ha hi hz b fun s' h6=>aO.none h6 h
def aB (l:List Str):List PV:=l.map .str
theorem zR: ∀{vs:List ak},cF σ (aB l) vs→ ∃ls:List (Str×Tok),strValues ls=vs∧ls.map (·.1)=l:=by
 induction l with
 |nil=>exact fun h=>⟨[],h.nilE.symm,rfl⟩
 |cons z l ih=>intro vs h;refine fW (cF.consE h) fun v us qz a r=>?_;obtain ⟨t,e⟩:=a;refine aE (ih r) fun ls h1 h2=>?_;exact ⟨(z,t)::ls,by rw [qz,e, ←h1];rfl,by rw [←h2];rfl⟩
theorem Bz (ls:List (Str×Tok)):cF σ (aB (ls.map (·.1))) (strValues ls):=by
 induction ls with
 |nil=>exact .nil
 |cons a _ ih=>exact .cons ⟨a.2,rfl⟩ ih
theorem xN {i:Nat} {z:Str} {l:List Str} (hi:st.h[i]? =some (.list (aB l))) (hok:JoinOk z l=true) (h:K (.str (Txt.join z l)) st):PC C (.builtin "str.join") [.str z, .ref i] st K:=by
 walk_at "T C,st,K,i,z,l hi hok h";walk_at "I B,T,σ,s,vs x hv";cases hv with|cons a r=>cases r with|cons b r=>
  cases r;obtain ⟨t,rfl⟩:=a;refine aE (b) fun a ha qz2=>?_;subst qz2;refine cH (x.list ha hi) fun us m e r=>?_;refine aE (zR r) fun ls e1 e2=>?_;subst e1;exact SC.join (aN e) e2 hok fun t' k=>aO.str (x.tok _) h
theorem Ff {z:Str} (hz:z.length≤big) (h:K (.str (Txt.rstrip z)) st):PC C (.builtin "str.rstrip") [.str z] st K:=fun B T σ s vs x hv=>by
 cases hv with|cons a r=>cases r;obtain ⟨t,rfl⟩:=a;exact SC.rstrip (fun t' k=>aO.str (x.tok _) h) (bF hz)
theorem xE {z y:Str} (h:K (.bool (ro z y)) st):PC C (.builtin "str.endswith") [.str z, .str y] st K:=by
 walk_at "T C,st,K,z,y h";walk_at "I B,T,σ,s,vs x hv";cases hv with|cons a r=>cases r with|cons b r=>cases r;obtain ⟨t,rfl⟩:=a;obtain ⟨u,rfl⟩:=b;exact SC.endswith (aO.bool x h)
theorem lJ {ls:List (Str×Tok)} (x:Mt C B T σ st s) (k:Nat) (e:ls.map (·.1)=l) (h:K (.ref st.h.length) {st with h:=st.h++[.list (aB l)]}):
  aO C B T VR σ K (.ref s.heap.objs.size) {s with heap:=s.heap.push {cls:= .type "list",data:= .seq (strValues ls).toArray},toks:=k}:=by
 subst e;exact aO.new ((Cr x (Bz ls)).tok k) x.hr.len h
theorem lU {z:Str} (hz:z.length≤big) (h:K (.ref st.h.length) {st with h:=st.h++[.list (aB (lw z))]}):PC C (.builtin "str.splitlines") [.str z] st K:=by
 walk_at "T C,st,K,z hz h";walk_at "I B,T,σ,s,vs x hv";cases hv with|cons a r=>
  cases r;obtain ⟨t,rfl⟩:=a;obtain hn:(lineCuts z).length≤sizeLine:=aq (lineCuts_le z) (aq (su hz 1) (by decide));refine call_meets F.slot_str_splitlines (typeIs_str _ _ _) F.entry_str_splitlines (F.args_str_splitlines_1 _) (meets_str_splitlines z t (bF hz) hn) ?_;cases hw:lineCuts z==[(0,z.length)]
  ·simp only [bu,if_false]
   rw [strsFrom_eq];exact lJ x _ ((numbered_texts _ _).trans (if_neg (ne_true_of_eq_false hw)).symm) h
  ·simp only [if_true]
   exact lJ (ls:=[(z,t)]) x s.toks (if_pos hw).symm h
end
end
section
variable {σ:List Addr}
theorem VR.bd {p:PV} {v:ak} (h:VR σ p v):p.bd σ.length:=by
 cases p with
 |ref i=>obtain ⟨a,h1,_⟩:=h;exact (af.mp h1).1
 |_=>trivial
theorem cF.bd {ps:List PV} {vs:List ak} (h:cF σ ps vs): ∀x∈ps,x.bd σ.length:=by
 induction h with
 |nil=>intro x hx;cases hx
 |cons a _ ih=>intro x hx;rcases ar.mp hx with rfl|hx;exact a.bd;exact ih x hx
theorem OS.bd {p:PO} {o:Obj} (h:OS σ p o):p.bd σ.length:=by
 cases p with
 |list=>obtain ⟨vs,n,e,r⟩:=h;exact r.bd
 |tuple=>obtain ⟨vs,n,e,r⟩:=h;exact r.bd
 |range=>trivial
 |junk=>trivial
 |raw=>obtain ⟨vs,e,r⟩:=h;exact r.bd
structure St.Wf (C:Cx) (st:St):Prop where
 h: ∀o∈st.h,o.bd st.h.length
 v: ∀z i w,C.vis.lookup z=some i→st.v[i]? =some (some w)→w.bd st.h.length
theorem Mt.wf {C:Cx} {B:Heap} {T:List Addr} {st:St} {s:az} (x:Mt C B T σ st s):st.Wf C:=by
 refine ⟨fun o ho=>?_,fun z i w h1 h2=>?_⟩
 ·obtain ⟨i,hi,e⟩:=gw ho
  have hi':i<σ.length:=by rw [x.hr.len];exact hi
  obtain ⟨ob,h1,h2⟩:=x.hr.at_ i σ[i] o (ae hi') (by rw [ae hi,e]);exact x.hr.len▸h2.bd
 ·refine aE (x.vars) fun m hm hv=>?_
  refine aE (hv z i w h1 h2) fun u h3 h4=>?_;exact x.hr.len▸h3.bd
section
variable {K:PV→St→Prop}{P:St→Prop}{e:dh}{h h0 t:List PO}{hi lo:Option Int}{i m:Nat}{l p u:PV}{o:PO}{v':List (Option PV)}{xs:List PV}{α:Type}
variable {C:Cx} {st:St}
theorem PA.wf {K:St→Prop} (h:st.Wf C→PA C e p st K):PA C e p st K:=fun B T σ s v x=>h x.wf B T σ s v x
theorem PV.bd_le {n:Nat} (h:p.bd n) (k:n≤m):p.bd m:=by cases p<;>first|exact c6 h k|trivial
theorem Gc.back {J:List PO} (W:St.Wf C ⟨v',h0⟩) (hm:m≤h0.length) (hh:st.h=h0++J)
  (hv: ∀(i:Nat) (w:PV),v'[i]? =some (some w)→st.v[i]? =some (some w)) (hP:P ⟨v',h0⟩):Gc C m P st:=by
 refine .inr h0.length v' hm (fun z i w h1 h2=>⟨hv i w h2,fun _=>W.v z i w h1 h2⟩) (fun i o _ hi e=>?_) ?_
 ·rw [hh,bh hi] at e;exact W.h o (fh e)
 ·rw [hh,List.take_left'];exact hP;rfl
theorem Gc.names (v':List (Option PV)) (hm:m≤st.h.length) (hv: ∀(i:Nat) (w:PV),v'[i]? =some (some w)→st.v[i]? =some (some w)) (hP:P ⟨v',st.h⟩):Gc C m P st:=by refine .inr st.h.length v' hm (fun z i w h1 h2=>⟨hv i w h2,fun h=>absurd h (ci _)⟩) (fun i o h _ _=>absurd h (ci _)) ?_;rw [iz];exact hP
theorem St.Wf.set {a:Nat} (W:St.Wf C ⟨v',h0⟩) (hx: ∀x∈xs,x.bd h0.length):St.Wf C ⟨v',h0.set a (.list xs)⟩:=by
 refine ⟨fun o ho=>?_,fun z i w h1 h2=>?_⟩
 ·dsimp only;rw [f0]
  rcases List.mem_or_eq_of_mem_set ho with ho|rfl
  ·exact W.h o ho
  ·exact hx
 ·dsimp only;rw [f0];exact W.v z i w h1 h2
theorem aF {v:List (Option PV)} {j:Nat} {q:Option PV} (hj:v[j]? =some none) {w:PV} (h:v[i]? =some (some w)):(v.set j q)[i]? =some (some w):=by rw [fi (fun e=>by rw [e,h] at hj;cases hj)];exact h
def cQ (a n:Nat):List PV:=(am n).map fun m=> .ref (a+m)
theorem qK (a n:Nat):cQ a (n+1)=cQ a n++[.ref (a+n)]:=by delta cQ;rw [i8,bv];rfl
theorem eK (a n:Nat):(cQ a n).length=n:=by simp [cQ]
theorem cJ:(h++o::t)[h.length]? =some o:=by rw [bf (ay _)];simp
theorem cS {o':PO}:(h++o::t).set h.length o'=h++o'::t:=by rw [lj _ _ (ay _)];simp
theorem wp_none (h:K .none st):WP C none st K:=h
theorem wp_some (h:WE C e st K):WP C (some e) st K:=h
theorem fZ (el:part l=some lo) (eu:part u=some hi) (hx:st.h[i]? =some (.list xs)) (hz:xs.length≤big)
  (h:K (.ref st.h.length) {st with h:=st.h++[.list (bH xs lo hi)]}):No C (.ref i) l u st K:=⟨el,eu, .list hx hz h⟩
theorem eU {z:Str} (el:part l=some lo) (eu:part u=some hi) (hz:z.length≤big) (h:K (.str (mu z lo hi)) st):No C (.str z) l u st K:=⟨el,eu, .str hz h⟩
theorem uF (xs:List α) (a b:Nat):bH xs (some (a:Int)) (some (b:Int))=(xs.drop a).take (b - a):=by
 delta bH;simp only [lr,clipAt_nat];rcases m0 a xs.length with h|h
 ·rw [jt h]
  rcases m0 b xs.length with h2|h2
  ·rw [jt h2]
  ·rw [j8 h2,cf (by simp),cf (by simp;exact aQ 0x24a1ac620c841 0x2108401 [_,_,_] h2)]
 ·rw [j8 h,jo (ay _),jo h];simp
theorem gR (xs:List α) (a:Nat):bH xs (some (a:Int)) none=xs.drop a:=by
 delta bH;simp only [lr,clipAt_nat];rcases m0 a xs.length with h|h
 ·rw [jt h,cf (by simp)]
 ·rw [j8 h,jo (ay _),jo h];simp
theorem iA (xs:List α) (b:Nat):bH xs none (some (b:Int))=xs.take b:=by
 delta bH;simp only [lr,clipAt_nat,g8,Nat.sub_zero];rcases m0 b xs.length with h|h
 ·rw [jt h]
 ·rw [j8 h,cf (ay _),cf h]
end
variable {C:Cx}{elt iter target:dh}{emit:ak→Env→Sem Fin→Sem Fin}{gens:List Comprehension}{ifs:List dh}{ip pos:Pos}{n:Nat}{scope:im}{st:St}
theorem tJ.mono {K K':(Nat→List PO→Option (Option PV))→St→Prop} (h:tJ C iter st K) (k: ∀nx st,K nx st→K' nx st):tJ C iter st K':=fun B T σ s Q E1 E2 x hQ=>
 h B T σ s Q E1 E2 x fun τ st1 s1 o R nx y hK hf hI hR=>hQ τ st1 s1 o R nx y (k _ _ hK) hf hI hR
inductive lX (n:Nat) (target:dh) (ifs:List dh) (emit:ak→Env→Sem Fin→Sem Fin) (scope:im) (own:List Str) (n₀:Nat) (C:Cx) (KE:Nat→List (Option PV)→List PO→Prop) (nx:Nat→List PO→Option (Option PV)) (st1:St):Prop
 |mk (hv:st1.v.length=n₀) (Inv:Nat→St→Prop) (N:Nat):Inv 0 ⟨st1.v++own.map (fun _=>none),st1.h++[.list []]⟩→(∀k st2 q,Inv k st2→nx k st2.h=some (some q)→k<N)→
   (∀L,bS (C.blk scope own n₀ L) n→(C.blk scope own n₀ L).Quiet→ ∀k st2 q,Inv k st2→nx k st2.h=some (some q)→PA (C.blk scope own n₀ L) target q st2 fun st3=>WI (C.blk scope own n₀ L) ifs st3 fun ok st4=>
    if ok=true then WM (C.blk scope own n₀ L) st1.h.length emit st4 (Gc (C.blk scope own n₀ L) (st1.h.length+1) (Inv (k+1))) else Gc (C.blk scope own n₀ L) (st1.h.length+1) (Inv (k+1)) st4)→
   (∀k st2,Inv k st2→nx k st2.h≠none)→(∀k st2,Inv k st2→nx k st2.h=some none→KE st1.h.length st1.v st2.h)→lX n target ifs emit scope own n₀ C KE nx st1
theorem lW {K:PV→St→Prop} (own:List Str)
  (hT: ∀it acc env,compTurn (.ListComp elt gens scope pos) 0 it acc env=gN target ip ifs (emit acc env) (again (.compLoop (.ListComp elt gens scope pos) 0 it acc env)) it env)
  (hg:gens[0]? =some ⟨target,iter,ifs,0⟩) (S:bS C n) (hq:C.Quiet) (n₀:Nat) (hb:gJ C scope own n₀=true)
  (h:tJ C iter st (lX n target ifs emit scope own n₀ C (fun l v H=>K (.ref l) ⟨v,H⟩)))
  (hs: ∀env x,dz iter env x=pure x:=by intro _ _;rfl) (ht: ∀it v,d9 target it v=pure ():=by intro _ _;rfl):
  WE C (.ListComp elt gens scope pos) st K:=
 Kq own hT hg hq n₀ hb (h.mono fun nx st1 hz=>by obtain ⟨a,Inv,N,b,c,d,e,g⟩:=hz;exact ⟨a,Inv,N,b,c,fun L=>d L S.blk ⟨S.hn,fun _ _ e=>e⟩,e,g⟩) hs ht
theorem yP {KF:Fl→St→Prop} {y:Str} {i:Nat} {p' spos:Pos} (own:List Str)
  (hT: ∀it acc env,compTurn (.ListComp elt gens scope pos) 0 it acc env=gN target ip ifs (emit acc env) (again (.compLoop (.ListComp elt gens scope pos) 0 it acc env)) it env)
  (hg:gens[0]? =some ⟨target,iter,ifs,0⟩) (S:bS C n) (hq:C.Quiet) (n₀:Nat) (hb:gJ C scope own n₀=true)
  (h:tJ C iter st (lX n target ifs emit scope own n₀ C (fun l v H=>KF .next ⟨v.set i (some (.ref l)),H⟩)))
  (hs: ∀env x,dz iter env x=pure x:=by intro _ _;rfl) (ht: ∀it v,d9 target it v=pure ():=by intro _ _;rfl)
  (hx:C.vis.lookup y=some i) (hk:C.env.kindOf y=some .local) (hsw:swapsWith (.ListComp elt gens scope pos) (some (.Name y p')) spos.line C.env=pure true):
  W1 C (.Assign [.Name y p'] (.ListComp elt gens scope pos) spos) st KF:=
 Lu own hT hg hq n₀ hb (h.mono fun nx st1 hz=>by obtain ⟨a,Inv,N,b,c,d,e,g⟩:=hz;exact ⟨a,Inv,N,b,c,fun L=>d L S.blk ⟨S.hn,fun _ _ e=>e⟩,e,g⟩) hs ht hx hk hsw
theorem Mt.setCell {C:Cx} {B:Heap} {T:List Addr} {σ:List Addr} {st:St} {s:az} (x:Mt C B T σ st s) {y:Str} {i:Nat} {v:PV} {u:ak} {c:Addr} {h':Heap} (hy:C.vis.lookup y=some i) (hk:C.env.kindOf y=some .cell) (ho:y∈C.own) (hc:C.env.cells.lookup y=some c)
  (hv:VR σ v u) (hn:h'.IsCell c (some u)) (hs:j7 c s.heap h'):Mt C B T σ {st with v:=st.v.set i (some v)} {s with heap:=h'}:=by
 walk_at "T C,B,T,σ,st,s x y,i,v,u,c,h' hy hk ho hc hv hn hs";have cm: ∀z d,C.env.cells.lookup z=some d→d∈C.privs:=fun z d e=> .tail _ (du (f:=nj) (List.mem_of_lookup_eq_some' e));have hcL:C.env.locals≠c:=fun e=>(eg.mp x.ok.nd).1 (e▸du (f:=nj) (List.mem_of_lookup_eq_some' hc));have hcw:c∈C.wr:= .tail _ (ot.mpr ⟨y,ho,hc⟩);have nσ: ∀a∈σ,a≠c:=fun a ha e=>x.priv _ (cm y c hc) (e▸ha);have inj: ∀z,C.env.cells.lookup z=some c→z=y:=fun z e=>
  name_of_addr (jw.mp (eg.mp x.ok.nd).2) (List.mem_of_lookup_eq_some' e) (List.mem_of_lookup_eq_some' hc)
 refine aE (x.vars) fun m hm hvs=>?_;refine ⟨x.ok,x.top,x.hr.keep fun a ha=>hs.2 a (nσ a ha),⟨m,hm.sameBut hs hcL,fun z j w h1 h2=>?_⟩,fun z hz d hd=>?_,fun q hq=>?_,x.priv,fun b o e n n' n2=>?_,x.sub,x.pre,x.low,x.gens,x.drawn,x.os,x.fr.same hs (.inl hcw) (fun _=>hn.imp fun o q=>⟨q.1,fun vs d=>by rw [q.2] at d;cases d⟩)⟩
 ·by_cases hz:z=y
  ·subst hz
   rw [hy] at h1;cases h1;have:w=v:=by
    have hl:i<st.v.length:=by have:=(af.mp h2).1;simpa using this
    rw [gu hl] at h2;exact (ba (ba h2)).symm
   subst this;exact ⟨u,hv, .cell (.inl hk) hc hn⟩
  ·have hij:i≠j:=fun e=>hz (x.ok.inj z y i (e▸h1) hy)
   rw [fi hij] at h2;refine aE (hvs z j w h1 h2) fun u' h3 h4=>?_;exact ⟨u',h3,h4.to id fun d e h5=>h5.sameBut hs fun q=>hz (inj z (q▸e))⟩
 ·by_cases hdc:d=c
  ·subst hdc;exact ⟨_,hn⟩
  ·obtain ⟨v₀,h0⟩:=x.cl z hz d hd;exact ⟨v₀,h0.sameBut hs hdc⟩
 ·by_cases hq':q=c
  ·subst hq';obtain ⟨o,e,_⟩:=hn;exact ⟨o,e⟩
  ·obtain ⟨o,e⟩:=x.pal q hq;exact ⟨o,(hs.2 q hq').trans e⟩
 ·have nb:b≠c:=fun q=>n' (q▸hcw)
  exact (hs.2 b nb).trans (x.keep b o e n n' n2)
section
variable {i:Nat}{p:PV}{x:Str}
variable {C:Cx} {st:St} {KF:Fl→St→Prop}
theorem Em {B:Heap} {T σ:List Addr} {s:az} {v:ak} {KU:Unit→St→Prop} (y:Mt C B T σ st s) (hx:C.vis.lookup x=some i) (hk:C.env.kindOf x=some .cell) (ho:C.own.contains x=true) (hc:(C.env.cells.lookup x).isSome=true) (hv:VR σ p v) (h:KU () {st with v:=st.v.set i (some p)}):
  bx C.M C.A (storeName C.env x v) (aO C B T (fun _ _ _=>True) σ KU) C.E s:=by
 obtain ⟨c,hc⟩:=gx.mp hc;obtain ⟨v₀,h0⟩:=y.cl x (ei.mp ho) c hc;exact wpAny_storeName_cell y.ok.kind hk hc h0 fun h' hn hs=>aO.now trivial (y.setCell hx hk (ei.mp ho) hc hv hn hs) h
theorem s_assignC {p' pos:Pos} {e:dh} (h:WE C e st (Mn i KF)) (hx:C.vis.lookup x=some i) (hk:C.env.kindOf x=some .cell) (ho:C.own.contains x=true) (hc:(C.env.cells.lookup x).isSome=true)
  (hs:swapsWith e (some (.Name x p')) pos.line C.env=pure false:=by rfl):W1 C (.Assign [.Name x p'] e pos) st KF:=fun B T σ s y=>by
 refine wpAny_Assign_Name (go (h B T σ s y) fun a s1 τ p st1 h1 h2 h3=>?_) hs;exact go (Em (KU:=fun _=>KF .next) h2 hx hk ho hc h1 h3) fun _ s2 τ' _ st2 _ k2 k3=>by rw [aa] at k2;exact ⟨_, .next,st2,rfl,k2,k3⟩
theorem pa_cell {px:Pos} {KS:St→Prop} (hx:C.vis.lookup x=some i) (hk:C.env.kindOf x=some .cell) (ho:C.own.contains x=true) (hc:(C.env.cells.lookup x).isSome=true) (h:KS {st with v:=st.v.set i (some p)}):PA C (.Name x px) p st KS:=fun B T σ s v y hv=>
 wpAny_assign_Name (Em (KU:=fun _=>KS) y hx hk ho hc hv h)
end
end
section
def PV.atom:PV→Prop
 | .ref _=>False
 |_=>True
theorem PV.atom.bd {p:PV} (h:p.atom) (n:Nat):p.bd n:=by cases p<;>first|exact h.elim|trivial
def cU (v:List (Option PV)) (h:List PO) (st:St):Prop:=(∀(i:Nat) (w:PV),v[i]? =some (some w)→st.v[i]? =some (some w))∧ ∃J,st.h=h++J
theorem cU.now {v v':List (Option PV)} {h:List PO} (hv: ∀(i:Nat) (w:PV),v[i]? =some (some w)→v'[i]? =some (some w)):cU v h ⟨v',h⟩:=⟨hv,[],by simp⟩
section
variable {C:Cx} {st:St} {K:PV→St→Prop} {n:Nat}
inductive tM (n:Nat) (A:Nat→PV→Prop) (elt target:dh) (ifs:List dh) (scope:im) (own:List Str) (n₀:Nat) (C:Cx) (KE:Nat→List (Option PV)→List PO→Prop) (nx:Nat→List PO→Option (Option PV)) (st1:St):Prop
 |mk (hv:st1.v.length=n₀) (items:List PV) (f:PV→Option PV):items.length≤big→(∀k t,nx k (st1.h++t)=some items[k]?)→
   (∀L,bS (C.blk scope own n₀ L) n→(C.blk scope own n₀ L).Quiet→ ∀q acc,q∈items→PA (C.blk scope own n₀ L) target q ⟨st1.v++own.map (fun _=>none),st1.h++[.list acc]⟩ fun st3=>WI (C.blk scope own n₀ L) ifs st3 fun ok st4=>
    if ok=true then WE (C.blk scope own n₀ L) elt st4 fun p st5=>f q=some p∧A st1.h.length p∧cU (st1.v++own.map (fun _=>none)) (st1.h++[.list acc]) st5
    else f q=none∧cU (st1.v++own.map (fun _=>none)) (st1.h++[.list acc]) st4)→
   KE st1.h.length st1.v (st1.h++[.list (items.filterMap f)])→tM n A elt target ifs scope own n₀ C KE nx st1
theorem iF {elt:dh} {scope:im} {target:dh} {ifs:List dh} {own:List Str} {n₀:Nat} {nx:Nat→List PO→Option (Option PV)} {st1:St} {items:List PV} {f:PV→Option PV} {KE:Nat→List (Option PV)→List PO→Prop} {A:Nat→PV→Prop} (hA: ∀p,A st1.h.length p→p.bd st1.h.length) (hv:st1.v.length=n₀) (hz:items.length≤big) (hnx: ∀k t,nx k (st1.h++t)=some items[k]?)
  (turn: ∀L,bS (C.blk scope own n₀ L) n→(C.blk scope own n₀ L).Quiet→ ∀q acc,q∈items→PA (C.blk scope own n₀ L) target q ⟨st1.v++own.map (fun _=>none),st1.h++[.list acc]⟩ fun st3=>WI (C.blk scope own n₀ L) ifs st3 fun ok st4=>
    if ok=true then WE (C.blk scope own n₀ L) elt st4 fun p st5=>f q=some p∧A st1.h.length p∧cU (st1.v++own.map (fun _=>none)) (st1.h++[.list acc]) st5
    else f q=none∧cU (st1.v++own.map (fun _=>none)) (st1.h++[.list acc]) st4)
  (hK:KE st1.h.length st1.v (st1.h++[.list (items.filterMap f)])):lX n target ifs (fR elt) scope own n₀ C KE nx st1:=by
 walk_at "T C,n,elt,scope,target,ifs,own,n₀,nx,st1,items,f,KE,A hA hv hz hnx turn hK";refine ⟨hv,fun k s=>s=⟨st1.v++own.map (fun _=>none),st1.h++[.list ((items.take k).filterMap f)]⟩,items.length,by simp,?_,?_,?_,?_⟩
 ·rintro k _ q rfl hq
  rw [hnx] at hq;exact (af.mp (ba hq)).1
 ·walk_at "I L, SB QB k, _ q, rfl hq"
  rw [hnx] at hq;obtain ⟨hk,hq⟩:=af.mp (ba hq);have hT:(items.take (k+1)).filterMap f=(items.take k).filterMap f++(match f q with|some p=>[p]|none=>[]):=by
   rw [d7,ae hk,r8,hq]
   congr 1
   cases e:f q<;>simp [e]
  obtain hlen:((items.take k).filterMap f).length≤big:=aq (List.length_filterMap_le _ _) (by rw [gy];exact aQ 0x90d820c862 0x2008421 [_,_,_] hz);refine PA.wf ?_;walk_at "I W";intro B T σ s v y hvr;refine go (turn L SB QB q _ (hq▸cg hk) B T σ s v y hvr) fun _ s1 τ _ st3 _ h2 h3=>⟨τ,(),st3,trivial,h2,?_⟩;have step: ∀ok st4,(if ok=true then WE (C.blk scope own n₀ L) elt st4 fun p st5=>f q=some p∧A st1.h.length p∧cU (st1.v++own.map (fun _=>none)) (st1.h++[.list ((items.take k).filterMap f)]) st5
    else f q=none∧cU (st1.v++own.map (fun _=>none)) (st1.h++[.list ((items.take k).filterMap f)]) st4)→
    if ok=true then WM (C.blk scope own n₀ L) st1.h.length (fR elt) st4 (Gc (C.blk scope own n₀ L) (st1.h.length+1) fun s=>s=⟨st1.v++own.map (fun _=>none),st1.h++[.list ((items.take (k+1)).filterMap f)]⟩)
    else Gc (C.blk scope own n₀ L) (st1.h.length+1) (fun s=>s=⟨st1.v++own.map (fun _=>none),st1.h++[.list ((items.take (k+1)).filterMap f)]⟩) st4:=by
   intro ok st4 h4;cases ok with
   |true=>
    simp only [if_true] at h4 ⊢;refine nS QB (h4.mono fun p st5 hzz=>?_);obtain ⟨e1,e2,kv,J,kh⟩:=hzz;obtain e3:(st5.h)[st1.h.length]? =some (.list ((items.take k).filterMap f)):=by rw [kh,aa];exact cJ
    refine ⟨_,e3,hlen,?_⟩;rw [e1] at hT;have W':=W.set (a:=st1.h.length) (xs:=(items.take (k+1)).filterMap f) (by
     walk_at "I x, hx";rw [hT] at hx;rcases bq.mp hx with hx|hx
     ·exact W.h (.list ((items.take k).filterMap f)) (by simp) x hx
     ·rw [bk] at hx;subst hx;exact PV.bd_le (hA _ e2) (by simp))
    obtain e4:(st1.h++[PO.list ((items.take k).filterMap f)]).set st1.h.length (.list ((items.take (k+1)).filterMap f))=st1.h++[.list ((items.take (k+1)).filterMap f)]:=cS;rw [e4] at W';refine Gc.back (J:=J) W' (by simp) ?_ kv rfl;dsimp only;rw [kh,aa,cq,cS,hT];simp
   |false=>simp only [bu,if_false] at h4 ⊢;refine nn ?_;walk_at "I gg";obtain ⟨e1,kv,J,kh⟩:=h4;refine gg ?_;rw [e1,be] at hT;rw [hT];exact Gc.back (J:=J) W (by simp) kh kv rfl
  cases ifs with
  |nil=>exact step true st3 h3
  |cons c r=>cases r with
   |nil=>exact WT.mono h3 step
   |cons _ _=>exact h3
 ·rintro k _ rfl;rw [hnx];simp
 ·rintro k _ rfl hq
  rw [hnx] at hq;obtain hk:=bz.mp (ba hq);rw [cf hk];exact hK
theorem bM {elt:dh} {scope:im} {pos:Pos} {target iter:dh} {ifs:List dh} (own:List Str) (S:bS C n) (hq:C.Quiet) (n₀:Nat) (hb:gJ C scope own n₀=true)
  (h:tJ C iter st (tM n (fun _ p=>p.atom) elt target ifs scope own n₀ C (fun l v H=>K (.ref l) ⟨v,H⟩)))
  (hs: ∀env x,dz iter env x=pure x:=by intro _ _;rfl) (ht: ∀it v,d9 target it v=pure ():=by intro _ _;rfl):
  WE C (.ListComp elt [⟨target,iter,ifs,0⟩] scope pos) st K:=
 lW own (gV _ _ _ _ _ _) rfl S hq n₀ hb (h.mono fun nx st1 hzz=>by obtain ⟨hv,items,f,hz,hnx,turn,hK⟩:=hzz;exact iF (A:=fun _ p=>p.atom) (fun _ x=>PV.atom.bd x _) hv hz hnx turn hK) hs ht
end
variable {C:Cx}{K:Bool→St→Prop}{st:St}
theorem wi_nil (h:K true st):WI C [] st K:=h
theorem wi_one {e:dh} (h:WT C e st K):WI C [e] st K:=h
end
section
open PySem.Builtin PySem.Builtin.Str
section
variable {α:Type}
variable {prog:n0} {w:aw} {A:jx} {E:ak→az→Prop} {s:az}
theorem jE {a:Addr} {its:Array ak} {c:Nat} {z:Str} {u:Tok} {Q:Mapped→az→Prop} (hl:s.heap.IsList a its) (hc:c<2^62) (hx:its[c]? =some (.str z u))
  (h: ∀k,Q (.text z) {s with toks:=k}):bx (model prog w) A (tableLookup (.ref a) c) Q E s:=by
 delta tableLookup;refine ag (wpAny_attempt (ag (wpAny_mkInt ?_)));refine wpAny_getItem_list (x:= .str z u) hl (by exact bi _) (by lia) (by simpa using hx) ?_;dsimp only;exact ag (av (ag (av (av (h _)))))
def eI (f:Nat→Str) (l:List Nat):List Nat:=l.flatMap fun c=>(f c).cps.toList
def vJ (f:Nat→Str) (x:Str):Str:=⟨(eI f x.cps.toList).toArray⟩
theorem Cq: ∀(ps:List Str) (acc:Array Nat),ps.foldl (fun acc p=>acc++p.cps) acc=acc++(ps.flatMap fun p=>p.cps.toList).toArray:=by
 intro zi;induction zi with
 |nil=>intro acc;rfl
 |cons p r ih=>intro acc;rw [p9,ih];apply lq.mp;simp
theorem Ji {m m':Sem α} {Q:α→az→Prop} {i:Decidable (false=true)} (h:bx (model prog w) A m' Q E s):bx (model prog w) A (@ite _ (false=true) i m m') Q E s:=by rw [if_neg gp];exact h
theorem Mw {m m':Sem α} {Q:α→az→Prop} {i:Decidable (true=true)} (h:bx (model prog w) A m Q E s):bx (model prog w) A (@ite _ (true=true) i m m') Q E s:=by rw [if_pos rfl];exact h
inductive Ov (s:az) (x:Str) (f:Nat→Str) (rest:List Nat) (b:List Str×Nat×Bool×List (Nat×Option Nat)×Bool) (s':az):Prop
 |mk (dn:List Nat) (k:Tok) (hd:x.cps.toList=dn++rest) (ek:s'={s with toks:=k}) (hb1:b.1.reverse.flatMap (fun p=>p.cps.toList)=eI f dn) (hb2:b.2.1=(eI f dn).length)
   (hb3: ∀c v,b.2.2.2.1.lookup c=some v→ ∃d,v=some d∧f c=⟨#[d]⟩) (hb4:b.2.2.2.2=false):Ov s x f rest b s'
theorem tA {a:Addr} {its:Array ak} {x:Str} {t:Tok} {f:Nat→Str} {Q:Fin→az→Prop} (hl:s.heap.IsList a its) (hf: ∀c∈x.cps.toList,c<2^62∧ ∃u,its[c]? =some (.str (f c) u)) (hlen: ∀c∈x.cps.toList,(f c).length≤3)
  (hz:x.length≤big) (h: ∀k u,Q (.done (.ret (.str (vJ f x) u))) {s with toks:=k}):bx (model prog w) A («str.translate» ⟨[.str x t, .ref a],[]⟩) Q E s:=by
 walk_at "T prog,w,A,E,s,a,its,x,t,f,Q hl hf hlen hz h";delta «str.translate»;refine ag (dy (a:=(o6 x t,x,fv a)) rfl ?_);dsimp only;by_cases h0:(x.length==0)=true
 ·rw [if_pos h0]
  have e:x.cps.toList=[]:=by have:x.cps.size=0:=eq_of_beq h0;exact ku.mp (by rw [je];exact this)
  have e2:vJ f x=x:=by delta vJ;rw [e];apply congrArg Str.mk (show _=x.cps from _);apply lq.mp;rw [e];rfl
  refine ag (wpAny_rule ?_);refine ag (av (a:=o6 x t) ?_);have:=h s.toks t;rw [e2] at this;exact av this
 ·rw [if_neg h0]
  have hz':x.cps.toList.length≤100000:=by rw [je];exact hz
  have hbig: ∀dn:List Nat,(∀c∈dn,(f c).length≤3)→(eI f dn).length≤3*dn.length:=by
   walk_at "I dn,";induction dn with
   |nil=>intro _;simp [eI]
   |cons c r ih=>
    walk_at "I h";have h1:(f c).cps.toList.length≤3:=by rw [je];exact h c (.head _)
    have h2:=ih fun y hy=>h y (.tail _ hy);delta eI at*;rw [cx,aj,cn];exact aW 0x487050503508321a0321c062 1057 [_,_,_] h1 h2
  have nt: ∀dn rest,x.cps.toList=dn++rest→tooLong (eI f dn).length=false:=by
   walk_at "I dn,rest e";have h1:=hbig dn fun c hc=>hlen c (by rw [e];exact sh _ hc);have h2:dn.length≤x.cps.toList.length:=by rw [e,aj];exact dw _ _
   delta tooLong;rw [decide_eq_false_iff_not];obtain this:(300000:Nat)≤sizeLine:=by decide
   exact Cf 0x373106430d4091c87020a432482927c09 0x308c21 [_,_,_,_] hz' h1 h2 this
  refine ag (PySem.MeetsSeq2.wpAny_forIn_array _ (Ov s x f) _ ?_ ?_ _ _ ?_)
  ·walk_at "I c,rest,bb,s' hI"
   obtain hbb: ∃ps tot fast known ad,bb=(ps,tot,fast,known,ad):=⟨_,_,_,_,_,rfl⟩;walk_at "E hbb : ps,tot,fast,known,ad ebb";subst ebb;refine Ov.casesOn hI ?_;walk_at "I dn,k hd ek hb1 hb2 hb3 hb4";subst ek;dsimp only at hb1 hb2 hb3 hb4 ⊢;subst hb2 hb4;rw [nt dn _ hd];have hm:c∈x.cps.toList:=by rw [hd];simp
   obtain ho72:=hf c hm;walk_at "E ho72 : hc u, hx";obtain hd':x.cps.toList=(dn++[c])++rest:=by rw [hd];simp
   obtain step: ∀(z:Str),z=f c→(z::ps).reverse.flatMap (fun p=>p.cps.toList)=eI f (dn++[c])∧(eI f dn).length+z.length=(eI f (dn++[c])).length:=by
    rintro z rfl
    have e:eI f (dn++[c])=eI f dn++(f c).cps.toList:=by simp [eI]
    refine ⟨by rw [e,o4,ey,hb1];simp,?_⟩;rw [e,aj,je];rfl
   refine Ji ?_;have slow: ∀(kn:List (Nat×Option Nat)) (k:Nat),(∀c v,kn.lookup c=some v→ ∃d,v=some d∧f c=⟨#[d]⟩)→ ∀{fs:Bool} {R:ForInStep (List Str×Nat×Bool×List (Nat×Option Nat)×Bool)→az→Prop},
     (∀k,R (.yield (f c::ps,(eI f dn).length+(f c).length,fs,kn,false)) {s with toks:=k})→
     bx (model prog w) A (do
      let __do_lift ←tableLookup (fv a) c
      match __do_lift with
       |Mapped.keep=>pure (i3 (({cps:=#[c]}:Str)::ps,(eI f dn).length+1,fs,kn,false))
       |Mapped.drop=>pure (i3 (ps,(eI f dn).length,fs,kn,true))
       |Mapped.char d=>pure (i3 (({cps:=#[d]}:Str)::ps,(eI f dn).length+1,fs,kn,false))
       |Mapped.text t=>pure (i3 (t::ps,(eI f dn).length+t.length,fs,kn,false))) R E {s with toks:=k}:=by
    intro kn k hk fs R hR;exact ag (jE (s:={s with toks:=k}) hl hc hx fun k'=>av (hR k'))
   have put: ∀(kn:List (Nat×Option Nat)) (fs:Bool) (k:Nat),(∀c v,kn.lookup c=some v→ ∃d,v=some d∧f c=⟨#[d]⟩)→ ∀z:Str,z=f c→ ∀m,m=(eI f dn).length+z.length→
     Ov s x f rest (z::ps,m,fs,kn,false) {s with toks:=k}:=by
    intro kn fs k hk z hz m hm;obtain ho96:=step z hz;walk_at "E ho96 : e1 e2";exact ⟨dn++[c],k,hd',rfl,e1,hm.trans e2,hk,rfl⟩
   cases fast with
   |false=>refine Ji ?_;exact slow known k hb3 fun k'=>put known false k' hb3 _ rfl _ rfl
   |true=>
    refine Mw ?_;cases hkn:known.lookup c with
    |some v=>refine aE (hb3 c v hkn) fun d qz1 hfd=>?_;subst qz1;dsimp only;refine ag (av (av ?_));exact put known true k hb3 _ hfd.symm _ rfl
    |none=>
     dsimp only;refine ag (jE (s:={s with toks:=k}) hl hc hx fun k'=>?_);dsimp only;by_cases h1:((f c).length==1&&(f c).cps.all fun x=>decide (x<128))=true
     ·simp only [h1,if_true]
      rw [bt,beq_iff_eq] at h1;obtain ⟨d,hd1⟩: ∃d,f c=⟨#[d]⟩:=by
       have h2:(f c).cps.size=1:=h1.1;refine ⟨(f c).cps[0],?_⟩;obtain h3:(f c).cps=#[(f c).cps[0]]:=by
        apply Array.ext
        ·exact h2.trans rfl
        ·intro i h4 h5
         obtain this:i=0:=by simp at h5;exact h5
         subst this;rfl
       exact congrArg Str.mk h3
      rw [hd1];refine ag (av (av ?_));refine put ((c,some d)::known) true k' ?_ _ hd1.symm _ rfl;intro c' v hv;rw [c7] at hv;cases e:c'==c with
      |true=>rw [e] at hv;cases hv;obtain e':c'=c:=eq_of_beq e;exact ⟨d,rfl,e'▸hd1⟩
      |false=>rw [e] at hv;exact hb3 c' v hv
     ·simp only [h1,if_false,bu]
      refine ag (av (ag (wpAny_rule ?_)));exact slow known k' hb3 fun k2=>put known false k2 hb3 _ rfl _ rfl
  ·rintro ⟨ps,tot,fast,known,ad⟩ s' ⟨dn,k,hd,rfl,hb1,hb2,hb3,hb4⟩
   dsimp only at hb1 hb2 hb3 hb4 ⊢;subst hb2 hb4;rw [nt dn _ hd];simp only [bu,if_false];obtain hdn:dn=x.cps.toList:=by rw [hd];simp
   obtain e:(⟨ps.reverse.foldl (fun acc p=>acc++p.cps) #[]⟩:Str)=vJ f x:=by rw [Cq,hb1,hdn];delta vJ;simp
   rw [e];refine ag (wpAny_mkStr (av (h _ _)) ?_);obtain h1:=hbig x.cps.toList hlen;obtain h2:(vJ f x).length=(eI f x.cps.toList).length:=by show ((eI f x.cps.toList).toArray).size=_;rfl
   rw [h2];obtain this:(300000:Nat)≤sizeLine:=by decide
   exact hW 0x2420c861a812390e030c84927c09 99361 [_,_,_] hz' h1 this
  ·exact ⟨[],s.toks,rfl,rfl,rfl,rfl,fun c v hv=>(by cases hv),rfl⟩
end
section
variable {C:Cx} {st:St} {K:PV→St→Prop} {n:Nat}
theorem vV {a:Addr} {f:Nat→Str} {z:Str} (L:dZ C.K a f) (hf: ∀k<256,(f k).length≤3) (hz:z.length≤big) (hc: ∀c∈z.cps.toList,c<256) (h:K (.str (vJ f z)) st):PC C (.builtin "str.translate") [.str z, .glob (.ref a)] st K:=by
 walk_at "T C,st,K,a,f,z L hf hz hc h";walk_at "I B,T,σ,s,vs x hv";cases hv with|cons p r=>cases r with|cons q r=>
  cases r;obtain ⟨t,rfl⟩:=p;cases q;obtain ⟨dd,l,m,sl,hl,h2,h3⟩:=L;obtain hL:=lstK x.topNow.KX hl;refine wpAny_call_entry F.slot_str_translate (typeIs_str _ _ _) F.entry_str_translate ?_ (F.args_str_translate_2 _ _);refine tA (f:=f) hL (fun c hc'=>⟨lb (hc c hc') (by decide),?_⟩) (fun c hc'=>hf c (hc c hc')) hz fun k u=>⟨_,rfl,aO.str (x.tok k) h⟩;obtain ⟨u,e⟩:=h3 c (hc c hc');exact ⟨u,by simpa using e⟩
end
end
section
def hU:List Nat:=("0123456789abcdefABCDEF":Str).cps.toList
def hv (c:Nat):Nat:=if c<58 then c - 48 else if c<71 then c - 55 else c - 87
theorem Iv: ∀a∈hU, ∀b∈hU,(int_private%"readNumeral") 0 16 [a,b]=(int_private%"Numeral.value") ((hv a*16+hv b:Nat):Int):=by
 obtain h: ∀a∈hU, ∀b∈hU,(int_private%"Numeral.casesOn") (motive:=fun _=>Bool) ((int_private%"readNumeral") 0 16 [a,b]) false (fun _=>false) false (fun n=>n==((hv a*16+hv b:Nat):Int))=true:=by decide+kernel
 intro a ha b hb;have:=h a ha b hb;generalize (int_private%"readNumeral") 0 16 [a,b]=r at this ⊢;cases r with
 |invalid=>cases this
 |tooLong=>cases this
 |byTheLibrary=>cases this
 |value n=>rw [beq_iff_eq.mp this]
theorem Ml {M:pd} {A:jx} {E:ak→az→Prop} {s:az} {Q:ak→az→Prop} {v:ak} {text:List Nat} {n:Int}
  (hs:(text.takeWhile (· != 0)).length≤640) (hr:(int_private%"readNumeral") 0 16 (text.takeWhile (· != 0))=(int_private%"Numeral.value") n)
  (ha:((text.takeWhile (· != 0)).length==text.length)=true) (h:Q (.int n s.toks) {s with toks:=s.toks+1}):
  bx M A ((int_private%"intFromText") v text 16) Q E s:=by
 refine nn fun gg=>?_;obtain ⟨hp,g,d,tk,os⟩:=s;refine gg ?_
 repeat (any_goals (first
  |assumption
  |(with_reducible refine kd (decide_eq_true hs) ?_)
  |(with_reducible refine kd (decide_eq_true ha) ?_)
  |wp_step))
 all_goals (try rw [hr])
 all_goals (try dsimp only)
 repeat (any_goals (first
  |assumption
  |(with_reducible refine kd (decide_eq_true hs) ?_)
  |(with_reducible refine kd (decide_eq_true ha) ?_)
  |wp_step))
theorem Ey: ∀a∈hU, ∀b∈hU,numTextOf (⟨#[a,b]⟩:Str)=[a,b]∧([a,b]:List Nat).takeWhile (· != 0)=[a,b]:=by decide+kernel
structure Rn (p:Prop):Prop where
 out:p
set_option maxHeartbeats 4000000 in
theorem Bp {a b:Nat} {u v:Tok} (ha:a∈hU) (hb:b∈hU):Gives (Builtin.«int.__new__» ⟨[.type "int", .str ⟨#[a,b]⟩ u, .int 16 v],[]⟩) (.int ((hv a*16+hv b:Nat):Int)):=
 .of_wp fun M A E s Q h=>by
  refine nn fun gg=>?_;obtain ⟨hp,g,d,tk,os⟩:=s;refine gg ?_;have f1:=F.conv_sub_int;have f2:=F.madeHere_int;have f6:typeOf (.str (⟨#[a,b]⟩:Str) u)=pure (.type "str"):=rfl;obtain ⟨t1,t2⟩:=Ey a ha b hb;have hs:((numTextOf (⟨#[a,b]⟩:Str)).takeWhile (· != 0)).length≤640:=by rw [t1,t2];show 2≤640;decide
  have hr:(int_private%"readNumeral") 0 16 ((numTextOf (⟨#[a,b]⟩:Str)).takeWhile (· != 0))=(int_private%"Numeral.value") ((hv a*16+hv b:Nat):Int):=by rw [t1,t2];exact Iv a ha b hb
  have hq:(((numTextOf (⟨#[a,b]⟩:Str)).takeWhile (· != 0)).length==(numTextOf (⟨#[a,b]⟩:Str)).length)=true:=by rw [t1,t2];rfl
  have hk:=Rn.mk (pt hs (pt hr hq));clear hs hr hq ha hb t1 t2
  repeat (any_goals (first
   |assumption
   |((with_reducible show bx _ _ ((int_private%"intFromText") _ _ _) _ _ _);refine Ml hk.out.1 hk.out.2.1 hk.out.2.2 ?_)
   |wp_step))
  all_goals first|exact ⟨_,rfl,h⟩|skip
theorem oW (a b:ak):checkTypeCall "int" ⟨[a,b],[]⟩=pure ():=by kernel_rfl
theorem qH (a b:ak):checkBuiltinCall "int.__new__" ⟨[.type "int",a,b],[]⟩=pure ():=by kernel_rfl
section
variable {C:Cx} {st:St} {K:PV→St→Prop}
theorem Ip {a b:Nat} (ha:a∈hU) (hb:b∈hU) (h:K (.int ((hv a*16+hv b:Nat):Int)) st):PC C (.type "int") [.str ⟨#[a,b]⟩, .int 16] st K:=by
 walk_at "T C,st,K,a,b ha hb h";walk_at "I B,T,σ,s,vs x hv";cases hv with|cons p r=>cases r with|cons q r=>
  cases r;obtain ⟨t,rfl⟩:=p;obtain ⟨u,rfl⟩:=q;exact callType_new F.called_int F.newNe_int (oW _ _) (qH _ _) (fun obj=>F.initArgs_range_2 obj _ _) F.entry_int_new (Bp ha hb).meets (show (Made.int _).post _ s from ⟨rfl,aO.int (x.tok _) h⟩)
end
end
section
open PySem.Builtin PySem.Builtin.Str
theorem Ca (lo hi:Option Int) (n:Nat):strSliceIndices lo hi 1 n=sliceRange ((lo.elim 0 (clipAt n):Nat):Int) ((hi.elim n (clipAt n):Nat):Int) 1:=by delta strSliceIndices;cases lo<;>cases hi<;>simp [clipAt_cast]
theorem Gy (n:Nat) (i:Int):clipAt n i≤n:=by exact Int.toNat_le.mpr (Int.max_le.mpr ⟨bi n,Int.min_le_right _ _⟩)
theorem vK (x:Str) (lo hi:Option Int):mu x lo hi=⟨(bH x.cps.toList lo hi).toArray⟩:=by
 walk_at "T x,lo,hi";have hn:x.cps.toList.length=x.length:=je ..;obtain hb:hi.elim x.length (clipAt x.length)≤x.length:=by cases hi with
  |none=>exact ay _
  |some i=>exact Gy _ _
 delta mu;rw [Ca,sliceRange_one];obtain e:(((am (hi.elim x.length (clipAt x.length) - lo.elim 0 (clipAt x.length))).map (lo.elim 0 (clipAt x.length)+ ·)).filterMap (x.cps[·]?))=bH x.cps.toList lo hi:=by rw [pick_run];delta bH;rw [hn]
 rw [e];split
 ·rename_i h
  simp only [bt,beq_iff_eq,bl,k9] at h;obtain h2:=h.2;have h0:lo.elim 0 (clipAt x.length)=0∨x.length=0:=by exact aW 0x1aa0102a01019087412c23 0x200040000001000000800000001080200800000001000000800000001 [_,_,_] hb h.2
  have:bH x.cps.toList lo hi=x.cps.toList:=by
   delta bH;rw [hn,h2];rcases h0 with h0|h0
   ·rw [h0,g8,cf (by rw [hn];exact ay _)]
   ·have:x.cps.toList=[]:=ku.mp (hn.trans h0)
    rw [this];simp
  rw [this]
 ·rfl
end
section
open PySem.Builtin PySem.Builtin.Str
theorem zS (f:Array ak→Array ak) (its:Array ak) (n:Nat): ∃m,qj f {cls:= .type "list",data:= .seq its n}={cls:= .type "list",data:= .seq (f its) m}:=by simp [qj]
section
variable {xs:List PV}{σ:List Addr}
variable {C:Cx} {st:St} {K:PV→St→Prop}
theorem rR {B:Heap} {T:List Addr} {s:az} {i:Nat} {a:Addr} {us:List ak} {vs:List ak} {m:Nat} {f:Array ak→Array ak} (x:Mt C B T σ st s) (ha:σ[i]? =some a) (e:s.heap.get? a=some (listOf vs.toArray m)) (hf:f vs.toArray=us.toArray) (r:cF σ xs us):
  Mt C B T σ {st with h:=st.h.set i (.list xs)} {s with heap:=s.heap.update a (qj f)}:=by
 obtain ⟨k,hk⟩:=zS f vs.toArray m;refine x.upd s.toks ha (gq ..) ⟨listOf us.toArray k,?_,us,k,rfl,r⟩;rw [fu _ e (by rw [hk];rfl),hk,hf]
theorem uI {i j:Nat} {xs ys:List PV} (hi:st.h[i]? =some (.list xs)) (hj:st.h[j]? =some (.list ys)) (hz:xs.length+ys.length≤big) (h:K .none {st with h:=st.h.set i (.list (xs++ys))}):PC C (.builtin "list.extend") [.ref i, .ref j] st K:=by
 walk_at "T C,st,K,i,j,xs,ys hi hj hz h";walk_at "I B,T,σ,s,vs x hv";cases hv with|cons p r=>cases r with|cons q r=>
  cases r;refine aE (p) fun a ha qz2=>?_;subst qz2;refine aE (q) fun b hb qz2=>?_;subst qz2;refine cH (x.list ha hi) fun vs n1 e1 r1=>?_;refine cH (x.list hb hj) fun us n2 e2 r2=>?_;have hs:vs.toArray.size+us.toArray.size≤sizeLine:=by simp only [cb,r1.length,r2.length];exact bF hz
  refine call_meets F.slot_list_extend ⟨_,e1,rfl⟩ F.entry_list_extend (F.args_list_extend_2 _ _) (AutoSeq1.list_extend_list_list_0 a vs.toArray n1 b us.toArray n2 (extend_door hs) (aq (dw _ _) hs) (aq hs (jn _))) ⟨e1,e2,?_⟩;exact aO.none (rR x ha e1 (us:=vs++us) (by simp) (r1.append r2)) h
theorem Il {i:Nat} {xs:List PV} (hi:st.h[i]? =some (.list xs)) (hz:xs.length≤big) (h:K .none {st with h:=st.h.set i (.list [])}):PC C (.builtin "list.clear") [.ref i] st K:=by
 walk_at "T C,st,K,i,xs hi hz h";walk_at "I B,T,σ,s,vs x hv";cases hv with|cons p r=>
  cases r;refine aE (p) fun a ha qz2=>?_;subst qz2;refine cH (x.list ha hi) fun vs n1 e1 r1=>?_;refine call_meets F.slot_list_clear ⟨_,e1,rfl⟩ F.entry_list_clear (F.args_list_clear_1 _) (AutoSeq1.list_clear_list_0 a vs.toArray n1 (by rw [cb,r1.length];exact bF hz)) ⟨e1,?_⟩;exact aO.none (rR x ha e1 (us:=[]) rfl .nil) h
theorem cF.snoc {p:PV}: ∀{vs:List ak},cF σ (xs++[p]) vs→ ∃us u,vs=us++[u]∧cF σ xs us∧VR σ p u:=by
 induction xs with
 |nil=>exact fun h=>let ⟨v,e,a⟩:=h.oneE;⟨[],v,e, .nil,a⟩
 |cons x xs ih=>intro vs h;refine fW (cF.consE h) fun v us qz a r=>?_;subst qz;refine fW (ih r) fun us u e r1 r2=>?_;exact ⟨_::us,u,by rw [e];rfl, .cons a r1,r2⟩
theorem Js {i:Nat} {xs:List PV} {p:PV} (hi:st.h[i]? =some (.list (xs++[p]))) (hz:xs.length+1≤big) (h:K p {st with h:=st.h.set i (.list xs)}):PC C (.builtin "list.pop") [.ref i] st K:=by
 walk_at "T C,st,K,i,xs,p hi hz h";walk_at "I B,T,σ,s,vs x hv";cases hv with|cons q r=>
  cases r;refine aE (q) fun a ha qz2=>?_;subst qz2;refine cH (x.list ha hi) fun vs n1 e1 r1=>?_;refine fW (cF.snoc r1) fun us u qz2 r2 r3=>?_;subst qz2;obtain hs:(us++[u]).toArray.size=xs.length+1:=by rw [cb,r1.length];simp
  refine call_meets F.slot_list_pop ⟨_,e1,rfl⟩ F.entry_list_pop (F.args_list_pop_1 _) (PySem.MeetsSeq.list_pop_last a (us++[u]).toArray n1 u (by simp) (by rw [hs];exact bF hz)) ⟨e1,?_⟩;refine aO.now r3 (rR x ha e1 (us:=us) ?_ r2) h;apply lq.mp;rw [Array.eraseIdxIfInBounds,dif_pos (by simp)];simp;rw [List.eraseIdx_append_of_length_le (ay _)];simp
theorem Hd {z y:Str} (hy:(y.length==0)=false) (hz:z.length≤big) (h:K (.ref st.h.length) {st with h:=st.h++[.list (aB (lv z y))]}):PC C (.builtin "str.split") [.str z, .str y] st K:=by
 walk_at "T C,st,K,z,y hy hz h";walk_at "I B,T,σ,s,vs x hv";cases hv with|cons p r=>cases r with|cons q r=>
  cases r;obtain ⟨t,rfl⟩:=p;obtain ⟨u,rfl⟩:=q;have hl:z.length+2≤sizeLine:=aq (su hz 2) (by decide);obtain hn:(partsBetween z (occurrences z y 0 z.length (z.length+1)) y.length).length≤sizeLine:=by have e1:=StrLaws.occ_length_le z y 0 z.length (z.length+1);rw [length_partsBetween];exact co (by assumption) (by assumption)
  cases h1:(decide (z.length<y.length)||decide (strKind z<strKind y))
  ·cases hf:(occurrences z y 0 z.length (z.length+1)).isEmpty
   ·refine call_meets F.slot_str_split (typeIs_str _ _ _) F.entry_str_split (F.args_str_split_2 _ _) (meets_str_split_sep z y t u h1 hy hf (by exact aq (dw _ _) (by assumption)) hn) ?_
    show wants _ _ _ {s with toks:=_,heap:=s.heap.push {cls:= .type "list",data:= .seq (strsFrom s.toks (partsBetween z (occurrences z y 0 z.length (z.length+1)) y.length)).toArray}};rw [strsFrom_eq];exact lJ x _ ((numbered_texts _ _).trans ((if_neg (ne_true_of_eq_false h1)).trans (if_neg (ne_true_of_eq_false hf))).symm) h
   ·exact call_meets F.slot_str_split (typeIs_str _ _ _) F.entry_str_split (F.args_str_split_2 _ _) (meets_str_split_not_found z y t u h1 hy hf)
     (lJ (ls:=[(z,t)]) x s.toks ((if_neg (ne_true_of_eq_false h1)).trans (if_pos hf)).symm h)
  ·exact call_meets F.slot_str_split (typeIs_str _ _ _) F.entry_str_split (F.args_str_split_2 _ _) (meets_str_split_cannot_occur z y t u h1)
    (lJ (ls:=[(z,t)]) x s.toks (if_pos h1).symm h)
end
end
section
open PySem.SeqAt
mutual
inductive dX (H:List PO):PV→PyData→Prop
 |none:dX H .none .none
 |bool (b:Bool):dX H (.bool b) (.bool b)
 |int (i:Int):dX H (.int i) (.int i)
 |str (z:Str):dX H (.str z) (.str z)
 |list {i:Nat} {xs:List PV} {ds:List PyData}:H[i]? =some (.list xs)→DeepAll H xs ds→dX H (.ref i) (.list ds)
 |tuple {i:Nat} {xs:List PV} {ds:List PyData}:H[i]? =some (.tuple xs)→DeepAll H xs ds→dX H (.ref i) (.tuple ds)
inductive DeepAll (H:List PO):List PV→List PyData→Prop
 |nil:DeepAll H [] []
 |cons {p:PV} {d:PyData} {ps:List PV} {ds:List PyData}:dX H p d→DeepAll H ps ds→DeepAll H (p::ps) (d::ds)
end
theorem dX.reads {σ:List Addr} {H:List PO} {h:Heap} (x:HR σ H h) {p:PV} {d:PyData} {v:ak} (y:dX H p d):VR σ p v→ ∃as,Reads h v d as:=
 dX.rec (motive_1:=fun p d _=> ∀v,VR σ p v→ ∃as,Reads h v d as) (motive_2:=fun ps ds _=> ∀vs,cF σ ps vs→ ∃as,ReadsAll h vs ds as)
  (fun v e=>by cases e;exact ⟨_, .none⟩) (fun b v e=>by cases e;exact ⟨_, .bool b⟩) (fun i v e=>by obtain ⟨t,rfl⟩:=e;exact ⟨_, .int i t⟩) (fun z v e=>by obtain ⟨t,rfl⟩:=e;exact ⟨_, .str z t⟩)
  (fun {i xs ds} hl _ ih v e=>by
   refine aE (e) fun a ha qz2=>?_;subst qz2;refine cH (x.list ha hl) fun vs n eo rs=>?_;obtain ⟨as,h1⟩:=ih _ rs;exact ⟨_, .list eo rfl rfl h1⟩)
  (fun {i xs ds} hl _ ih v e=>by
   refine aE (e) fun a ha qz2=>?_;subst qz2;refine cH (x.tuple ha hl) fun vs n eo rs=>?_;obtain ⟨as,h1⟩:=ih _ rs;exact ⟨_, .tuple eo rfl rfl h1⟩)
  (fun vs e=>by rw [e.nilE];exact ⟨_, .nil⟩)
  (fun {p d ps ds} _ _ i1 i2 vs e=>by
   refine fW (e.consE) fun v us qz a r=>?_;subst qz;obtain ⟨as,h1⟩:=i1 _ a;obtain ⟨bs,h2⟩:=i2 _ r;exact ⟨_, .cons h1 h2⟩) y v
section
variable {da db:PyData}{p q:PV}
variable {C:Cx} {st:St} {K:PV→St→Prop} {n:Nat}
theorem Jy (S:bS C n) (hp:dX st.h p da) (hq:dX st.h q db) (ha:shaped da=true) (hb:shaped db=true) (h:K (.bool (oi da db)) st):P2 C (d0 .Eq) p q st K:=fun B T σ s v u x hv hu=>by obtain ⟨as,ra⟩:=hp.reads x.hr hv;obtain ⟨bs,rb⟩:=hq.reads x.hr hu;exact compareEq_shaped ra rb ha hb (by have:=S.un;exact aQ 0x2625000202433128003212a1c061 33 [_,_,_] this) (aO.bool x h)
theorem Ju (S:bS C n) (hp:dX st.h p da) (hq:dX st.h q db) (ha:shaped da=true) (hb:shaped db=true) (h:K (.bool (!PyData.eqv da db)) st):P2 C (d0 .NotEq) p q st K:=fun B T σ s v u x hv hu=>by obtain ⟨as,ra⟩:=hp.reads x.hr hv;obtain ⟨bs,rb⟩:=hq.reads x.hr hu;exact compareNe_shaped ra rb ha hb (by have:=S.un;exact aQ 0x2625000202433128003212a1c061 33 [_,_,_] this) (aO.bool x h)
end
end
section
variable {l:List Str}{vs:List ak}{σ:List Addr}
theorem Mt.allocAt {C:Cx} {B:Heap} {T:List Addr} {σ:List Addr} {st:St} {s:az} (x:Mt C B T σ st s) {h':Heap} {a:Addr} {p:PO} (t:Nat) (k: ∀b o,s.heap.get? b=some o→h'.get? b=some o) (ha:s.heap.objs.size≤a) (hp:OR (σ++[a]) h' a p):
  Mt C B T (σ++[a]) {st with h:=st.h++[p]} {s with heap:=h',toks:=t}:=by
 walk_at "T C,B,T,σ,st,s x h',a,p,t k ha hp";have y:=x.grow t k;obtain haσ:a∉σ:=fun hm=>ci _ (c6 (x.hr.lt a hm) ha);refine ⟨x.ok,x.top,⟨by simp [x.hr.len],?_,?_⟩,?_,y.cl,y.pal,?_,y.keep,?_,x.pre.trans (dj _ _),?_,x.gens,x.drawn,x.os,x.fr.alloc k ha⟩
 ·rw [k8]
  exact ⟨x.hr.nd,by simp,fun b hb c hc=>by rw [bk] at hc;subst hc;exact fun e=>haσ (e▸hb)⟩
 ·intro i b q e f
  by_cases hi:i<σ.length
  ·rw [bh hi] at e
   rw [bh (x.hr.len▸hi)] at f;obtain ⟨o,h1,h2⟩:=y.hr.at_ i b q e f;exact ⟨o,h1,h2.mono⟩
  ·obtain hi':i=σ.length:=by
    have h1:=(af.mp e).1;simp at h1;exact aW 0x14107731066a0a041 0x108401 [_,_] hi h1
   subst hi';rw [bf (ay _)] at e;rw [x.hr.len,bf (ay _)] at f;simp at e f;subst e f;exact hp
 ·refine aE (y.vars) fun m hm hv=>?_
  exact ⟨m,hm,fun n i v h1 h2=>let ⟨u,h3,h4⟩:=hv n i v h1 h2;⟨u,h3.mono,h4⟩⟩
 ·intro q hq hm
  rcases bq.mp hm with hm|hm
  ·exact x.priv q hq hm
  ·rw [bk] at hm;subst hm
   obtain ⟨o,e⟩:=x.pal _ hq;exact ci _ (c6 (dc e) ha)
 ·intro b hb hn
  rcases bq.mp hb with hb|hb
  ·exact x.sub b hb hn
  ·rw [bk] at hb;subst hb;exact x.fresh _ ha hn
 ·intro b hb
  rcases bq.mp hb with hb|hb
  ·exact x.low b hb
  ·rw [bk] at hb;subst hb;exact aq x.big ha
theorem kU: ∀{vs:List ak},cF σ (aB l) vs→StrsAre vs l:=by
 induction l with
 |nil=>exact fun h=>by rw [h.nilE];exact .nil
 |cons z l ih=>intro vs h;refine fW (cF.consE h) fun v us qz a r=>?_;obtain ⟨t,e⟩:=a;rw [qz,e];exact .cons z t (ih r)
theorem xK (h:StrsAre vs l):cF σ (aB l) vs:=by
 induction h with
 |nil=>exact .nil
 |cons z t _ ih=>exact .cons ⟨t,rfl⟩ ih
def aI (l:List Int):List PV:=l.map .int
theorem kO {l:List Int}: ∀{vs:List ak},cF σ (aI l) vs→IntsAre vs l:=by
 induction l with
 |nil=>exact fun h=>by rw [h.nilE];exact .nil
 |cons z l ih=>intro vs h;refine fW (cF.consE h) fun v us qz a r=>?_;obtain ⟨t,e⟩:=a;rw [qz,e];exact .cons z t (ih r)
theorem xH {l:List Int} (h:IntsAre vs l):cF σ (aI l) vs:=by
 induction h with
 |nil=>exact .nil
 |cons z t _ ih=>exact .cons ⟨t,rfl⟩ ih
section
variable {i:Nat}
variable {C:Cx} {st:St} {K:PV→St→Prop} {n:Nat}
theorem Ej {l:List Str} {k:Str} (hi:st.h[i]? =some (.list (aB l))) (h:K (.bool (!l.any (· ==k))) st):P2 C (d0 .NotIn) (.str k) (.ref i) st K:=fun B T σ s v u x ⟨_,e⟩ ⟨a,ha,f⟩=>by subst e f;refine cH (x.list ha hi) fun vs m eo r=>?_;exact notin_list_strs (aN eo) (kU r) (aO.bool x h)
theorem Oj {l:List Int} {k:Int} (hi:st.h[i]? =some (.list (aI l))) (h:K (.bool (l.any (· ==k))) st):P2 C (d0 .In) (.int k) (.ref i) st K:=fun B T σ s v u x ⟨_,e⟩ ⟨a,ha,f⟩=>by subst e f;refine cH (x.list ha hi) fun vs m eo r=>?_;exact in_list_ints (aN eo) (kO r) (aO.bool x h)
theorem gP {i:Nat} {l:List Str} (hi:st.h[i]? =some (.list (aB l))) (hz:l.length<64) (h: ∀l',l'.Perm l→sortedS l'=true→K (.ref st.h.length) {st with h:=st.h++[.list (aB l')]}):PC C (.builtin "sorted") [.ref i] st K:=by
 walk_at "T C,st,K,i,l hi hz h";walk_at "I B,T,σ,s,vs x hv";cases hv with|cons p r=>
  cases r;refine aE (p) fun a ha qz2=>?_;subst qz2;refine cH (x.list ha hi) fun us m eo r=>?_;refine sorted_strs (aN eo) (kU r) (by rw [r.length];simpa [aB] using hz) fun out ss' h1 h2 h3=>?_;obtain ⟨e,he⟩:=sortedAll_at s.heap us out;refine aO.new (x.allocAt (p:= .list (aB ss')) s.toks (fun b o q=>sortedAll_old q) (jn _) ⟨_,he,out.toList,e,by simp [seqObj],xK h1⟩) x.hr.len (h ss' h2 h3)
end
def fL (K:Frag) (a:Addr) (xs:List Int):Prop:= ∃vs m,K.lookup a=some (listOf vs.toArray m)∧ ∀σ,cF σ (aI xs) vs
theorem rV {C:Cx} {st:St} {a:Addr} {xs:List Int} {l u:PV} {lo hi:Option Int} {K:PV→St→Prop} (el:part l=some lo) (eu:part u=some hi) (hS:fL C.K a xs) (hz:(aI xs).length≤big)
  (h:K (.ref st.h.length) {st with h:=st.h++[.list (bH (aI xs) lo hi)]}):No C (.glob (.ref a)) l u st K:=by
 refine cH (hS) fun vs m e r=>?_;exact ⟨el,eu, .top e r hz h⟩
end
section
theorem yE {σ:List Addr}: ∀{l:List Int} {vs:List ak},cF σ (aI l) vs→ ∃ts:List (Int×Tok),intItems ts.toArray=vs.toArray∧ts.map (·.1)=l:=by
 intro zi;induction zi with
 |nil=>intro _ h;cases h;exact ⟨[],by simp [intItems],rfl⟩
 |cons z l ih=>
  intro _ h;cases h with|cons e r=>
  obtain ⟨t,e⟩:=e;refine aE (ih r) fun ts h1 h2=>?_;refine ⟨(z,t)::ts,?_,by rw [←h2];rfl⟩;subst e;unfold intItems at*;apply lq.mp;have:=congrArg Array.toList h1;simp at this ⊢;exact this
section
variable {C:Cx} {st:St} {K:PV→St→Prop} {n:Nat}
theorem Ij {i:Nat} {xs:List PV} (hi:st.h[i]? =some (.list xs)) (hz:xs.length≤big) (h:K (.ref st.h.length) {st with h:=st.h++[.tuple xs]}):PC C (.type "tuple") [.ref i] st K:=by
 walk_at "T C,st,K,i,xs hi hz h";walk_at "I B,T,σ,s,vs x hv";cases hv with|cons p r=>
  cases r;refine aE (p) fun a ha qz2=>?_;subst qz2;refine cH (x.list ha hi) fun us m eo r=>?_;refine call_tuple_list (aN eo) (fun h' hk=>?_) (by rw [cb,r.length];exact bF hz);obtain y:=x.grow s.toks hk;exact aO.new (y.alloc (p:= .tuple xs) rfl ⟨_,b9 _ rfl,us,_,rfl,r.mono⟩) x.hr.len h
theorem Eo {i:Nat} {l:List Int} (S:bS C n) (hi:st.h[i]? =some (.list (aI l))) (hne:l≠[]) (h: ∀m∈l,(∀j∈l,j≤m)→K (.int m) st):PC C (.builtin "max") [.ref i] st K:=by
 walk_at "T C,st,K,n,i,l S hi hne h";walk_at "I B,T,σ,s,vs x hv";cases hv with|cons p r=>
  cases r;refine aE (p) fun a ha qz2=>?_;subst qz2;refine cH (x.list ha hi) fun us m eo r=>?_;refine aE (yE r) fun ts e1 e2=>?_;have hL:=aN eo;rw [←e1] at hL;have hts:ts.toArray.size=l.length:=by rw [cb, ←e2,bl]
  have hpos:0<ts.toArray.size:=by rw [hts];exact gd.mpr hne
  refine max_intList S.hn hL hpos fun v h' tk hP hk=>?_;obtain ⟨t,rfl⟩:=intItems_at hP;obtain ⟨g1,g2⟩:=argBest_gt (numAt ts.toArray) (ts.toArray.size - 1);have nat: ∀j (hj:j<l.length),numAt ts.toArray j=l[j]:=by
   intro j hj;obtain hj':j<ts.length:=by rw [←e2] at hj;simpa using hj
   delta numAt;simp [hj', ←e2]
  refine aO.int (x.grow tk hk) (h _ ?_ ?_)
  ·obtain hlt:argBest (fun i j=>decide (numAt ts.toArray i>numAt ts.toArray j)) (ts.toArray.size - 1)<l.length:=by exact hW 0x9883410e630224b0a061 0x210000100021 [_,_,_] hts hpos g1
   rw [nat _ hlt];exact cg _
  ·intro j hj
   obtain ⟨q,hq,rfl⟩:=gw hj;have:=g2 q (by exact aW 0x92c281068314c61 0x200840100401 [_,_,_] hts hq);rw [nat q hq] at this;exact this
end
end
section
theorem vR: ∀(l:List (Int×Tok)) (k:Nat),k≤l.length→preSum (numAt l.toArray) k=((l.take k).map (·.1)).sum:=by
 intro l k;induction k with
 |zero=>intro _;simp [preSum]
 |succ k ih=>intro h;have hk:k<l.length:=h;rw [preSum,ih (de hk),d7,ae hk,bv,m7];delta numAt;simp [hk]
section
variable {C:Cx} {st:St} {K:PV→St→Prop} {n:Nat}
theorem Kv {i:Nat} {l:List Int} (S:bS C n) (hi:st.h[i]? =some (.list (aI l))) (h:K (.int l.sum) st):PC C (.builtin "sum") [.ref i] st K:=by
 walk_at "T C,st,K,n,i,l S hi h";walk_at "I B,T,σ,s,vs x hv";cases hv with|cons p r=>
  cases r;refine aE (p) fun a ha qz2=>?_;subst qz2;refine cH (x.list ha hi) fun us m eo r=>?_;refine aE (yE r) fun ts e1 e2=>?_;have hL:=aN eo;rw [←e1] at hL;refine call_sum_walkG (iter_intList hL fun s₂ e st' hfp hlI=>?_);subst e;refine ⟨_,_,_,_,_,_,numAt ts.toArray,rfl,Walks.list (A:=C.A.in1) S.hn _ a hlI (intItems ts.toArray),st',hfp,(fun _ _=>intItems_at),fun h' tk t' hk=>?_⟩;obtain e3:preSum (numAt ts.toArray) (intItems ts.toArray).size=l.sum:=by
   obtain this:(intItems ts.toArray).size=ts.length:=by simp [intItems]
   rw [this,vR ts ts.length (ay _),iz,e2]
  rw [e3];exact aO.int (x.grow tk (old_kept hk)) h
end
end
section
theorem cF.flat {σ:List Addr} {xs:List PV} {vs:List ak} (h:cF σ xs vs): ∀k:Nat,cF σ (jh k xs).flatten (jh k vs).flatten:=by
 intro zi;induction zi with
 |zero=>exact .nil
 |succ k ih=>rw [sw,sw,br,br];exact h.append (ih)
section
variable {C:Cx} {st:St} {K:PV→St→Prop} {n:Nat}
theorem Ko {i:Nat} {xs:List PV} {k:Int} (hi:st.h[i]? =some (.list xs)) (hk0:0≤k) (hk1:k≤1000) (hz:xs.length≤1000) (h:K (.ref st.h.length) {st with h:=st.h++[.list (jh k.toNat xs).flatten]}):P2 C (binaryOp .Mult) (.ref i) (.int k) st K:=fun B T σ s v u x ⟨a,ha,e⟩ ⟨t,f⟩=>by
 subst e f;refine cH (x.list ha hi) fun vs m eo r=>?_;obtain hl:vs.toArray.size=xs.length:=by rw [cb,r.length]
 have hm:vs.toArray.size*k.toNat≤2^24:=by
  rw [hl];obtain this:k.toNat≤1000:=by simp_all
  exact aq (Nat.mul_le_mul hz this) (by decide)
 refine wpAny_binaryOp_repeat_ref (T:="list") (U:="int") (by decide) ⟨_,eo,rfl⟩ (fun s'=>typeIs_int s' k t) noFill_list_mul F.fills_int_mul F.slot_int_rmul repeat_list F.slot_int_index.lookup
  (call_meets F.slot_int_rmul (typeIs_int s k t) F.entry_int_rmul (F.args_int_rmul_2 _ _) (lm_int_rmul_list_any k t a vs.toArray m none #[])
   ⟨eo,rfl,⟨_,eo,rfl⟩,call_meets F.slot_list_mul ⟨_,eo,rfl⟩ F.entry_list_mul (F.args_list_mul_2 _ _)
    (lm_list_mul_any a vs.toArray m none #[] k t (by simp [Builtin.List.listFitsIndex];lia) (by lia) (by simp [Builtin.List.listTooLong,sizeLine];omega))
    ⟨eo,?_⟩⟩)
 rw [listMul_foldl_if];exact aO.new (Cr x (r.flat k.toNat)) x.hr.len h
end
end
section
section
variable {K:List (Str×PV)→St→Prop}
variable {C:Cx} {st:St} {n:Nat}
theorem sS {fd:FuncData} {ps:List PV} {T:Addr} {oc:ak} {dd:Option Addr} {m:Nat} {sl:Array (Option ak)} {items:Array ak} {ns:List Str} {y:Str} {q:PV} {w:ak}
  (hK:C.K.lookup T=some ⟨oc,dd, .seq items m,sl⟩) (hn:ns.length=ps.length) (hw: ∀σ,VR σ q w)
  (hb: ∀vs:List ak,vs.length=ps.length→ ∃k,bindArgs fd ⟨vs,[]⟩=seqItems? (.ref T)>>=k∧k (some items)=pure (ns.zip vs++[(y,w)]))
  (h:K (ns.zip ps++[(y,q)]) st):PB C fd ps st K:=fun A E B T' σ s vs x hv=>by
 refine aE (hb vs hv.length) fun k e1 e2=>?_;rw [e1];refine ag (wpAny_seqItems (x.topGet hK) rfl ?_);rw [e2];refine av (aO.now (b:=ns.zip ps++[(y,q)]) ⟨?_,?_⟩ x h)
 ·rw [bv,bv,jj (by rw [hv.length];exact dg hn),jj (dg hn)];rfl
 ·obtain f1:(ns.zip vs).map (·.2)=vs:=ji (by rw [hv.length];exact dg hn.symm)
  obtain f2:(ns.zip ps).map (·.2)=ps:=ji (dg hn.symm);rw [bv,bv,f1,f2];exact hv.append (.cons (hw σ) .nil)
def kS (fd:FuncData) (vs:List ak):{k:Option (Array ak)→Sem (List (Str×ak)) // bindArgs fd ⟨vs,[]⟩=seqItems? fd.defaults>>=k}:=⟨_,rfl⟩
theorem Bx {K:List (Str×PV)→St→Prop} {name qual:Str} {kV doc pm cdv ct:ak} {an:Option Addr} {z:PV} (S:bS C n) (h:K [("encoded",z),("eol", .str "\n")] st):
  PB C (fnOf name qual (aP (aD 23)) (aX (aD 23)) (aU (aD 23)) (.ref 79) kV doc pm an cdv ct) [z] st K:=by
 walk_at "T C,st,n,K,name,qual,kV,doc,pm,cdv,ct,an,z S h";obtain ⟨oc,dd,m,sl,_,u,hK⟩:=S.kn.d79;refine sS (ns:=["encoded"]) (y:="eol") (q:= .str "\n") (w:= .str "\n" u) hK rfl (fun σ=>⟨u,rfl⟩) (fun vs hv=>?_) h;obtain ⟨v,rfl⟩:=Ad hv;exact ⟨(kS _ _).1,(kS _ _).2,rfl⟩
theorem At {name qual:Str} {kV doc pm cdv ct:ak} {an:Option Addr} {z k:PV} (S:bS C n) (h:K [("body",z),("maxlinelen",k),("eol", .str "\n")] st):
  PB C (fnOf name qual (aP (aD 22)) (aX (aD 22)) (aU (aD 22)) (.ref 71) kV doc pm an cdv ct) [z,k] st K:=by
 obtain ⟨oc,dd,m,sl,t,u,hK⟩:=S.kn.d71;refine sS (ns:=["body","maxlinelen"]) (y:="eol") (q:= .str "\n") (w:= .str "\n" u) hK rfl (fun σ=>⟨u,rfl⟩) (fun vs hv=>?_) h;obtain ⟨v,w,rfl⟩:=Lb hv;exact ⟨(kS _ _).1,(kS _ _).2,rfl⟩
end
end
section
theorem wL {α:Type} (lt:α→α→Bool) (tr: ∀a b c,lt a b=true→lt b c=true→lt a c=true) (ir: ∀a,lt a a=false) (num:Nat→α): ∀k,argBest (fun i j=>lt (num j) (num i)) k≤k∧ ∀j,j≤k→lt (num (argBest (fun i j=>lt (num j) (num i)) k)) (num j)=false:=by
 intro zi;induction zi with
 |zero=>exact ⟨ay _,fun j hj=>by rw [Nat.le_zero.mp hj];exact ir _⟩
 |succ k ih=>
  obtain ⟨h1,h2⟩:=ih;rw [argBest];split
  ·rename_i hb
   refine ⟨ay _,fun j hj=>?_⟩;rcases j9 j (k+1) with hlt|hge
   ·cases e:lt (num (k+1)) (num j) with
    |false=>rfl
    |true=>have:=tr _ _ _ hb e;rw [h2 j (ik hlt)] at this;cases this
   ·obtain this:j=k+1:=by exact aW 0x28a0a041928281064150502 0x2008021 [_,_] hj hge
    subst this;exact ir _
  ·rename_i hb
   refine ⟨Nat.le_succ_of_le h1,fun j hj=>?_⟩;rcases j9 j (k+1) with hlt|hge
   ·exact h2 j (ik hlt)
   ·obtain this:j=k+1:=by exact aW 0x28a0a041928281064150502 0x2008021 [_,_] hj hge
    subst this;simpa using hb
def fV (x y:Str):Bool:=decide (x.cps.toList<y.cps.toList)
theorem gT (a b c:Str) (h:fV a b=true) (k:fV b c=true):fV a c=true:=by delta fV at*;rw [decide_eq_true_eq] at*;exact List.lt_trans h k
theorem fO (a:Str):fV a a=false:=by delta fV;rw [decide_eq_false_iff_not];exact List.lt_irrefl _
theorem Gq {prog:n0} {w:aw} {A:jx} {P:Nat→ak→Prop} (val:Nat→Str) (hval: ∀i v,P i v→ ∃t,v= .str (val i) t):CmpOf prog w A .Gt P (fun i j=>fV (val j) (val i)):=fun i j vi vj s Q E hi hj h=>by obtain ⟨t,rfl⟩:=hval i vi hi;obtain ⟨u,rfl⟩:=hval j vj hj;exact richCompare_gives (op:= .Gt) (typeIs_str s _ t) (typeIs_str s _ u) F.slot_str_gt F.entry_str_gt (F.args_str_gt_2 _ _) (gives_str_gt _ _ t u) (fun x=>nomatch x) h
section
variable {C:Cx} {st:St} {K:PV→St→Prop} {n:Nat}
theorem Lh {i:Nat} {l:List Str} (S:bS C n) (hi:st.h[i]? =some (.list (aB l))) (hne:l≠[]) (h: ∀m∈l,(∀j∈l,fV m j=false)→K (.str m) st):PC C (.builtin "max") [.ref i] st K:=by
 walk_at "T C,st,K,n,i,l S hi hne h";walk_at "I B,T,σ,s,vs x hv";cases hv with|cons p r=>
  cases r;refine aE (p) fun a ha qz2=>?_;subst qz2;refine cH (x.list ha hi) fun us m eo r=>?_;have hL:=aN eo;have hlt:a<s.heap.objs.size:=dc eo;have hul:us.length=l.length:=by rw [r.length];simp [aB]
  have hval: ∀(j:Nat) (v:ak),us.toArray[j]? =some v→ ∃t,v=o6 (l.getD j "") t:=by
   intro j v hj;have hj':us[j]? =some v:=by simpa using hj
   have hjl:=(af.mp hj').1;rw [hul] at hjl;refine aE (r.get (i:=j) (p:= .str l[j]) (by simp [aB,hjl])) fun u hu hr=>?_;rw [hj'] at hu;cases hu;obtain ⟨t,rfl⟩:=hr;exact ⟨t,by rw [ao,ae hjl];rfl⟩
  refine call_max_walk (wpAny_pyIter_list hL ?_);refine ⟨_,_,_,_,_,_,_,rfl,Walks.list (A:=C.A.in1) S.hn _ a (ez hlt) us.toArray,⟨⟨_,b9 _ rfl,rfl,rfl⟩,hL.push _⟩,?_,?_,Gq (fun j=>l.getD j "") hval,fun v h' tk hP hk=>?_⟩
  ·intro b hb
   show b<(s.heap.push _).objs.size;rw [gh];rcases ar.mp hb with rfl|hb
   ·exact ch _
   ·rcases ar.mp hb with rfl|hb
    ·exact jy hlt
    ·cases hb
  ·rw [cb,hul];exact gd.mpr hne
  ·have hpos:=gd.mpr hne
   obtain ⟨t,rfl⟩:=hval _ v hP;obtain ⟨g1,g2⟩:=wL fV gT fO (fun j=>l.getD j "") (us.toArray.size - 1);rw [cb,hul] at g1 g2 hP ⊢;generalize argBest (fun i j=>fV (l.getD j "") (l.getD i "")) (l.length - 1)=b at g1 g2 hP ⊢;have hb:b<l.length:=by exact aW 0x13106620224b0a041 0x840000021 [_,_] hpos g1
   have e:l.getD b ""=l[b]:=by rw [ao,ae hb];rfl
   rw [e] at g2 ⊢;refine aO.str (x.grow tk (old_kept hk)) (h _ (cg _) fun y hy=>?_);obtain ⟨q,hq,rfl⟩:=gw hy;have:=g2 q (by exact aQ 0x12585020cc41 0x2100401 [_,_] hq);rwa [ao,ae hq] at this
end
end
section
open PySem.SeqAt
variable {J h:List PO}{an:Option Addr}{body:List iy}{cdv ct dV doc kV pm:ak}{i:Nat}{name qual x:Str}{o:PO}{params:Arguments}{scope:im}
theorem iK (h: ∀v,bindArgs (fnOf name qual params body scope dV kV doc pm an cdv ct) ⟨[v],[]⟩=pure [(x,v)]) (vs:List ak) (hv:vs.length=[x].length):
  bindArgs (fnOf name qual params body scope dV kV doc pm an cdv ct) ⟨vs,[]⟩=pure ([x].zip vs):=by obtain ⟨v,rfl⟩:=Ad hv;exact h v
theorem rF {y:Str} (h: ∀v u,bindArgs (fnOf name qual params body scope dV kV doc pm an cdv ct) ⟨[v,u],[]⟩=pure [(x,v),(y,u)]) (vs:List ak) (hv:vs.length=[x,y].length):
  bindArgs (fnOf name qual params body scope dV kV doc pm an cdv ct) ⟨vs,[]⟩=pure ([x,y].zip vs):=by obtain ⟨v,u,rfl⟩:=Lb hv;exact h v u
theorem aC {n:Nat} (h:n≤100000):n≤big:=h
theorem cK:(h++J)[h.length+i]? =J[i]? :=by rw [bf (by exact dw _ _)];congr 1;simp
theorem tC:(h++J).set (h.length+i) o=h++J.set i o:=by rw [lj _ _ (by exact dw _ _)];congr 2;simp
theorem old_get (e:h[i]? =some o):(h++J)[i]? =some o:=by rw [bh (af.mp e).1];exact e
theorem g0:(h++J)[h.length]? =J[0]? :=by rw [bf (ay _)];simp
theorem g1 {x:PO}:(h++[x])[h.length]? =some x:=g0
theorem g2 {x y:PO} (e:x=y):(h++[x])[h.length]? =some y:=e▸g0
section
variable {J h:List PO}{P:St→Prop}{a b:Str}{l:List Str}{m:Nat}{v v2:List (Option PV)}
variable {C:Cx} {st:St} {K:PV→St→Prop} {KB:Bool→St→Prop} {n:Nat}
theorem c_gts (h:K (.bool (fV b a)) st):P2 C (d0 .Gt) (.str a) (.str b) st K:=P2.ss fun B T σ s _ _ x=>by exact PySem.P.gt_str (aO.bool x h)
theorem c_lts (h:K (.bool (fV a b)) st):P2 C (d0 .Lt) (.str a) (.str b) st K:=P2.ss fun B T σ s _ _ x=>by exact lt_str (aO.bool x h)
theorem Ks {i:Nat} {k:Str} (hi:st.h[i]? =some (.tuple (aB l))) (h:K (.bool (!l.any (· ==k))) st):P2 C (d0 .NotIn) (.str k) (.ref i) st K:=fun B T σ s v u x ⟨_,e⟩ ⟨a,ha,f⟩=>by subst e f;refine nn fun gg=>?_;obtain ⟨ob,eo,vs,m,rfl,r⟩:=x.hr.at_ i a _ ha hi;refine gg ?_;exact notin_tuple_strs ⟨_,eo,rfl,m,rfl⟩ (kU r) (aO.bool x h)
theorem Ny {p q:PV} {xs:List PyData} {d:PyData} (S:bS C n) (hp:dX st.h p d) (hq:dX st.h q (.list xs)) (ha:shaped d=true) (hb:ig xs=true) (h:K (.bool (xs.any fun y=>oi y d)) st):P2 C (d0 .In) p q st K:=fun B T σ s v u x hv hu=>by obtain ⟨as,ra⟩:=hp.reads x.hr hv;obtain ⟨bs,rb⟩:=hq.reads x.hr hu;exact in_list_reads rb ra hb (canLay_of_shaped ha) (room_in_shaped ha (by have:=S.un;exact aQ 0x262500020a433128003212a1c061 33 [_,_,_] this)) (aO.bool x h)
theorem Gc.keep (W:St.Wf C ⟨v,h⟩) (hm:m≤h.length) (hv: ∀(i:Nat) (w:PV),v[i]? =some (some w)→v2[i]? =some (some w)) (hP:P ⟨v,h⟩):Gc C m P ⟨v2,h++J⟩:=
 Gc.back (J:=J) W hm rfl hv hP
theorem Gc.app {xs ys:List PV} (W:St.Wf C ⟨v,h++[.list xs]⟩) (hy: ∀y∈ys,y.atom) (hm:m≤h.length+1) (hv: ∀(i:Nat) (w:PV),v[i]? =some (some w)→v2[i]? =some (some w))
  (hP:P ⟨v,h++[.list ys]⟩):Gc C m P ⟨v2,h++ .list ys::J⟩:=by
 have W':=W.set (a:=h.length) (xs:=ys) (fun x hx=>(hy x hx).bd _);rw [cS] at W';exact Gc.back (J:=J) W' (by simpa using hm) (by simp) hv hP
theorem oF: ∀y∈aB l,y.atom:=fun y hy=>by obtain ⟨_,_,rfl⟩:=ap.mp hy;trivial
end
end
section
open PySem.SeqAt
variable {k n:Nat}{l:List Nat}{α:Type}
def tx (l:List Nat):Str:=⟨l.toArray⟩
theorem pX (l:List Nat):(tx l).cps.toList=l:=rfl
theorem mC (z:Str):tx z.cps.toList=z:=by cases z;rfl
theorem cL (a b:List Nat):tx a++tx b=tx (a++b):=by show Str.mk (a.toArray++b.toArray)=_;delta tx;simp
theorem aH (l:List Nat):(tx l).length=l.length:=by show l.toArray.size=_;simp
theorem Kd {a b:List Nat} (h:tx a=tx b):a=b:=by have:=congrArg (fun z:Str=>z.cps.toList) h;exact this
theorem nX (a b:List Nat):(tx a==tx b)=(a==b):=by rw [fa,beq_iff_eq,beq_iff_eq];exact ⟨Kd,fun h=>h▸rfl⟩
theorem Lg (a b:List Nat):(tx a != tx b)=(a != b):=by delta bne;rw [nX]
theorem vW: ∀ls:List (List Nat),Str.join (tx []) (ls.map tx)=tx ls.flatten
 |[]=>rfl
 |[a]=>by show tx a=_;simp
 |a::b::r=>by have ih:=vW (b::r);show tx a++tx []++Str.join (tx []) ((b::r).map tx)=_;rw [ih,cL,cL];simp
def aS:List (List Nat)→List Nat
 |[]=>[]
 |[a]=>a
 |a::b::r=>a++10::aS (b::r)
theorem oE: ∀ls:List (List Nat),Str.join (tx [10]) (ls.map tx)=tx (aS ls)
 |[]=>rfl
 |[a]=>rfl
 |a::b::r=>by have ih:=oE (b::r);show tx a++tx [10]++Str.join (tx [10]) ((b::r).map tx)=_;rw [ih,cL,cL];simp [aS]
theorem pI:("":Str)=tx []:=by decide+kernel
theorem rA:("\n":Str)=tx [10]:=by decide+kernel
theorem vG:("=":Str)=tx [61]:=by decide+kernel
theorem Jp:(" ":Str)=tx [32]:=by decide+kernel
theorem Me:("\t":Str)=tx [9]:=by decide+kernel
theorem Kc (c:Nat):dO c=tx [c]:=rfl
theorem Jv (ls:List (List Nat)):Txt.join "" (ls.map tx)=tx ls.flatten:=by show qu _ _=_;rw [qr,pI,vW]
theorem Om (ls:List (List Nat)):Txt.join "\n" (ls.map tx)=tx (aS ls):=by show qu _ _=_;rw [qr,rA,oE]
theorem dA (l:List Nat) (lo hi:Option Int):mu (tx l) lo hi=tx (bH l lo hi):=vK _ _ _
theorem rS (n:Nat):clipAt n (-1)=n - 1:=by
 cases n with
 |zero=>rfl
 |succ n=>
  delta clipAt;obtain e:(-1:Int)+((n+1:Nat):Int)=(n:Int):=by lia
  rw [if_pos (by decide),e,Int.min_eq_left (by exact jd.mpr (jn n)),Int.max_eq_right (bi n)];rfl
theorem xU (l:List α):bH l (some (-1)) none=l.drop (l.length - 1):=by delta bH;simp only [lr,rS];rw [cf (by simp)]
theorem gL (l:List α):bH l none (some (-1))=l.dropLast:=by delta bH;simp only [lr,rS,g8,Nat.sub_zero];rw [lm]
theorem eE (h:List Nat) (c:Nat):o7 (tx h) (tx [c])=decide (c∈h):=StrLaws.found_one (tx h) c
theorem rW (hk:k<n):seqIndex? (k:Int) n=some k:=by
 delta seqIndex?;obtain e:(if (k:Int)<0 then (k:Int)+n else k)=k:=if_neg (by simp);simp only [e];obtain h2:(decide ((0:Int)≤k)&&decide ((k:Int)<n))=true:=by simp [hk]
 rw [h2];simp
theorem qI (hk:0<n):seqIndex? (-1) n=some (n - 1):=by
 delta seqIndex?;obtain e:(if (-1:Int)<0 then (-1:Int)+n else -1)= -1+n:=if_pos (by decide);simp only [e];obtain h2:(decide ((0:Int)≤ -1+n)&&decide ((-1+n:Int)<n))=true:=by simp;lia
 rw [h2];simp;lia
theorem Ix (hk:k<l.length):mw (tx l) (k:Int)=tx [l[k]]:=by delta mw Txt.charAt;rw [aH,rW hk];simp [tx,hk]
theorem yR (h:l≠[]):mw (tx l) (-1)=tx [l.getLast h]:=by
 have hp:=gd.mpr h;delta mw Txt.charAt;rw [aH,qI hp];obtain this:l.length - 1<l.length:=by exact aQ 0x2615850198408 0x2008001 [_] hp
 simp [tx,List.getLast_eq_getElem,this]
def aR (k:Nat):List Nat:=(cW k).cps.toList
theorem rM (k:Nat):1≤(aR k).length∧(aR k).length≤3:=by
 delta aR cW;split
 ·exact ⟨ay 1,by show 1≤3;decide⟩
 ·exact ⟨by show 1≤3;decide,ay 3⟩
def cZ:Nat→List (List Nat)→Nat
 |_,[]=>0
 |w,a::r=>if a.length<w∧r≠[] then cZ (w - a.length) r+1 else 0
theorem mH (w a r):cZ w (a::r)=(if a.length<w∧r≠[] then cZ (w - a.length) r+1 else 0):=rfl
def bI (w:Nat) (t:List Nat):List (List Nat):=
 if t.getLast? =some 32∨t.getLast? =some 9 then
  let code:=if t.getLast? =some 32 then [61,50,48] else [61,48,57]
  if t.length+2≤w then [t.dropLast++code] else if t.length<w then [t++[61],[]] else [t.dropLast++[61],code]
 else [t]
def bB (w:Nat):Nat→List (List Nat)→List (List Nat)
 |0,left=>bI w left.flatten
 |n+1,left=>if w<left.flatten.length then ((left.take (cZ w left)).flatten++[61])::bB w n (left.drop (cZ w left)) else bI w left.flatten
theorem eF (w n left):bB w (n+1) left=(if w<left.flatten.length then ((left.take (cZ w left)).flatten++[61])::bB w n (left.drop (cZ w left)) else bI w left.flatten):=rfl
theorem vH: ∀{w:Nat} {ls:List (List Nat)},ls≠[]→cZ w ls<ls.length
 |_,[],h=>absurd rfl h
 |w,a::r,_=>by
  rw [mH];split
  ·rename_i h;have:=vH (w:=w - a.length) h.2;simp;assumption
  ·simp
theorem pO: ∀{w:Nat} {ls:List (List Nat)},0<w→(ls.take (cZ w ls)).flatten.length<w
 |w,[],h=>by simpa only [List.take_nil,fb,js] using h
 |w,a::r,h=>by
  rw [mH];split
  ·rename_i h1
   have:=pO (w:=w - a.length) (ls:=r) (by exact aQ 0x135882044c22 0x2100401 [_,_] h1.1);simp only [l7,br,aj];exact aQ 0x2635083358462 0x100021 [_,_,_] this
  ·simpa using h
theorem qS: ∀{w:Nat} {ls:List (List Nat)} {k:Nat},k<ls.length→(ls.take k).flatten.length<w→k≤cZ w ls
 |_,[],k,h,_=>by simp at h
 |w,a::r,0,_,_=>cz _
 |w,a::r,k+1,h,h2=>by
  simp only [l7,br,aj] at h2;simp only [cn] at h;rw [mH];have hr:r≠[]:=by rintro rfl;simp at h
  rw [if_pos ⟨by exact aQ 0x9883312861 33 [_,_,_] h2,hr⟩];have:=qS (w:=w - a.length) (ls:=r) (k:=k) (by exact ik (by assumption)) (by exact aQ 0x26b1883312823 0x2100401 [_,_,_] h2);exact o8 (by assumption)
theorem By {w:Nat} {ls:List (List Nat)} (h3: ∀l∈ls,l.length≤3) (hw:4≤w) (h:w<ls.flatten.length):1≤cZ w ls:=by
 match ls,h,h3 with
 |[],h,_=>simp at h
 |[a],h,h3=>have:=h3 a (.head _);simp at h;exact hW 0x482144844448681cc62 33824 [_,_,_] hw this h
 |a::b::r,h,h3=>have:=h3 a (.head _);rw [mH];rw [if_pos ⟨by exact co (by assumption) (by assumption),by simp⟩];exact rq _
end
section
open PySem.Builtin PySem.Builtin.ObjectAttr
open PySem.SeqAt
theorem Au:entryFor table "list.__getattribute__"=some Builtin.«object.__getattribute__»:=entryFor_alias (id':="object.__getattribute__") (by kernel_rfl) rfl (by decide+kernel) (by kernel_rfl)
theorem Ck:Slot "list" "__getattribute__" "list.__getattribute__":=
 .of (owner:="list") (n:="__getattribute__") (by rw [typeLookup_type,fg];kernel_rfl) (by decide+kernel) (by decide+kernel) (by decide+kernel)
  (by first|exact .inl (by decide+kernel)|exact .inr (by decide+kernel)) (by rw [isSubtype_type];kernel_rfl)
theorem Ga (a b:ak):argsOk "list.__getattribute__" ⟨[a,b],[]⟩:=by delta argsOk;kernel_rfl
theorem Fp:g9 (.type "list") "append"=pure (some (.builtin "list.append")):=by rw [typeLookup_type,fg];kernel_rfl
theorem oY:Slot "method_descriptor" "__get__" "method_descriptor.__get__":=
 .of (owner:="method_descriptor") (n:="__get__") (by rw [typeLookup_type,fg];kernel_rfl) (by decide+kernel) (by decide+kernel) (by decide+kernel)
  (by first|exact .inl (by decide+kernel)|exact .inr (by decide+kernel)) (by rw [isSubtype_type];kernel_rfl)
theorem xM:g9 (.type "method_descriptor") "__set__"=pure none:=by rw [typeLookup_type,fg];kernel_rfl
theorem wO:g9 (.type "method_descriptor") "__delete__"=pure none:=by rw [typeLookup_type,fg];kernel_rfl
theorem vI:entryFor table "method_descriptor.__get__"=some Builtin.«method_descriptor.__get__»:=entryFor_of_tree (by kernel_rfl)
theorem xL (a b c:ak):argsOk "method_descriptor.__get__" ⟨[a,b,c],[]⟩:=by delta argsOk;kernel_rfl
def oS (id:String) (self:ak):Obj:={cls:= .type "builtin_function_or_method",data:= .fields #[.builtin id,self]}
section
variable {Q:ak→az→Prop}{a:Addr}{expr:Bool}{o:Obj}
variable {prog:n0} {w:aw} {A:jx} {E:ak→az→Prop} {s:az}
theorem Aq {P:Fin→az→Prop} (hT:s.TypeIs (.ref a) "list") (h:P (.done (.ret (.ref s.heap.objs.size))) {s with heap:=s.heap.push (oS "list.append" (.ref a))}):
  bx (model prog w) A (Builtin.«method_descriptor.__get__» ⟨[.builtin "list.append", .ref a, .type "list"],[]⟩) P E s:=by
 delta Builtin.«method_descriptor.__get__»;refine ag (dy (a:=(.builtin "list.append",some (.ref a),some (.type "list"))) (by first|rfl|kernel_rfl) ?_);dsimp only;rw [if_neg (by decide+kernel)];refine ag ?_;refine ag (dy (a:=((("append":Str),jz "list"):Str×ak)) (by first|rfl|kernel_rfl) ?_);dsimp only;refine ag (wpAny_isInstance hT F.sub_list_list ?_);rw [if_neg (by decide)];refine av ?_;exact ag (wpAny_newObj_type (av h))
theorem Ki {CT D id gid:String} {name:Str} (look:g9 (.type CT) name=pure (some (.builtin id))) (tD:typeOf (.builtin id)=pure (.type D)) (dget:g9 (.type D) "__get__"=pure (some (.builtin gid))) (dset:g9 (.type D) "__set__"=pure none) (ddel:g9 (.type D) "__delete__"=pure none) (hcn: ¬(["__module__","__name__","__qualname__","__doc__","__annotations__"]:List Str).contains name=true) {a:Addr} {ob:Obj} (hget: ∀{A:jx} {E:ak→az→Prop} {s:az} {Q:ak→az→Prop},s.TypeIs (.ref a) CT→Q (.ref s.heap.objs.size) {s with heap:=s.heap.push ob}→bx (model prog w) A (call (.builtin gid) [.builtin id, .ref a, .type CT]) Q E s) {o:Obj} {t:Tok} {P:Fin→az→Prop} (ho:s.heap.get? a=some o) (hc:o.cls= .type CT) (hd:o.dict=none) (hn:notCls o=true)
  (h:P (.done (.ret (.ref s.heap.objs.size))) {s with heap:=s.heap.push (ob)}):
  bx (model prog w) A (Builtin.«object.__getattribute__» ⟨[.ref a, .str name t],[]⟩) P E s:=by
 walk_at "T prog,w,A,E,s,CT,D,id,gid,name look tD dget dset ddel hcn a,ob hget o,t,P ho hc hd hn h";have hT:s.TypeIs (.ref a) CT:=⟨o,ho,hc⟩;delta Builtin.«object.__getattribute__»;refine ag (dy (a:=(fv a,[o6 name t])) rfl ?_);dsimp only;refine ag (dy (a:=name) rfl ?_);refine ag (wpAny_typeOf hT ?_);refine ag ?_;unfold find;refine ag (dy look ?_);refine ag (wpAny_specialOf (v:= .builtin id) (T:=D) tD dget ?_);refine ag (ag ?_);refine ag (wpAny_specialOf (v:= .builtin id) (T:=D) tD dset ?_);refine ag (wpAny_specialOf (v:= .builtin id) (T:=D) tD ddel ?_);refine av ?_;refine av ?_;dsimp only;delta ownThenClass;refine ag ?_;refine nn ?_;walk_at "I gg";obtain ⟨oc,od,oda,osl⟩:=o;refine gg ?_;dsimp only at hc hd hn;subst hc hd;have hi:bx (model prog w) A (instanceDict a false) (fun d s'=>d=none∧s'=s) E s:=by delta instanceDict;refine ag (wpAny_loadPart ho ?_);exact av ⟨rfl,rfl⟩
 have hown:bx (model prog w) A (inOwnDict name (.ref a)) (fun d s'=>d=none∧s'=s) E s:=by
  refine ag (m:=ownDict a) (ag (wpAny_loadPart ho ?_));cases oda<;>first|(refine bc hi ?_ fun _ _ e=>e;rintro _ _ ⟨rfl,rfl⟩;exact av ⟨rfl,rfl⟩)|cases hn
 refine bc hown ?_ fun _ _ e=>e
 rintro _ _ ⟨rfl,rfl⟩
 dsimp only;refine ag ?_;delta copiedAttributeGuard;dsimp only;rw [if_neg hcn];refine av ?_;delta byTheClass;refine ag (wpAny_rule (av ?_));dsimp only;delta bindTo;dsimp only;refine ag (cj ?_);exact hget hT (av h)
theorem yJ {CT D id gid:String} {name:Str} (look:g9 (.type CT) name=pure (some (.builtin id))) (tD:typeOf (.builtin id)=pure (.type D)) (dget:g9 (.type D) "__get__"=pure (some (.builtin gid))) (dset:g9 (.type D) "__set__"=pure none) (ddel:g9 (.type D) "__delete__"=pure none) (hcn: ¬(["__module__","__name__","__qualname__","__doc__","__annotations__"]:List Str).contains name=true) {ob:Obj} {ai:String} (sga:Slot CT "__getattribute__" ai) (ega:entryFor table ai=some Builtin.«object.__getattribute__») (aga: ∀a b,argsOk ai ⟨[a,b],[]⟩) (hget: ∀{A:jx} {E:ak→az→Prop} {s:az} {Q:ak→az→Prop},s.TypeIs (.ref a) CT→Q (.ref s.heap.objs.size) {s with heap:=s.heap.push ob}→bx (model prog w) A (call (.builtin gid) [.builtin id, .ref a, .type CT]) Q E s) (ho:s.heap.get? a=some o) (hc:o.cls= .type CT) (hd:o.dict=none) (hn:notCls o=true)
  (h: ∀t,Q (.ref s.heap.objs.size) {s with heap:=s.heap.push (ob),toks:=t}):bx (model prog w) A (getAttr (.ref a) name expr) Q E s:=by
 delta getAttr getAttrBy;refine ag (wpAny_mkText (cj ?_));have hT:az.TypeIs {s with toks:=s.toks+1} (.ref a) CT:=⟨o,ho,hc⟩;refine ag (wpAny_typeOf hT (ag (dy sga.lookup ?_)));dsimp only;rw [if_neg (by exact fun q=>gp q)];delta getAttrByItsOwn;refine ag (dy (a:=none) rfl ?_);refine ag (wpAny_attempt (cj ?_));delta callGetattribute;rw [if_neg (by cases expr<;>exact fun q=>gp q)];delta boundAndCalled;refine ag (dy (sga.bind (.ref a)) ?_);refine wpAny_call_entry sga hT ega (Ki look tD dget dset ddel hcn @hget (s:={s with toks:=s.toks+1}) ho hc hd hn ⟨_,rfl,?_⟩) (aga _ _);exact av (h _)
theorem xP (ho:s.heap.get? a=some o) (hc:o.cls= .type "list") (hd:o.dict=none) (hn:notCls o=true)
  (h: ∀t,Q (.ref s.heap.objs.size) {s with heap:=s.heap.push (oS "list.append" (.ref a)),toks:=t}):bx (model prog w) A (getAttr (.ref a) "append" expr) Q E s:=
 yJ Fp F.type_list_append oY.lookup xM wO (by decide) Ck Au Ga (fun hT hq=>wpAny_call_entry oY F.type_list_append vI (Aq hT ⟨_,rfl,hq⟩) (xL _ _ _)) ho hc hd hn h
end
end
section
open PySem.Builtin PySem.Builtin.ObjectAttr
open PySem.SeqAt
theorem wN:qy "list.append"=some ⟨.oneArg,"list.append","append", .self,[⟨"object", .posOnly,true⟩]⟩:=by rw [signature?_of (id:="list.append") (n:=['d','n','e','p','p','a']) (o:=['t','s','i','l']) (by kernel_rfl) F.owner_list];kernel_rfl
theorem vX:builtinKind "list.append"=some .method:=by decide+kernel
theorem nL:isSubtype (.type "list") (.type "module")=pure false:=by rw [isSubtype_type];kernel_rfl
section
variable {M:pd}{a:Addr}{o:Obj}
variable {prog:n0} {w:aw} {A:jx} {E:ak→az→Prop} {s:az}
theorem xO {Q:Bool→az→Prop} (ho:s.heap.get? a=some o) (hn:notCls o=true) (h:Q false s):bx M A (isType (.ref a)) Q E s:=by
 delta isType;refine ag (wpAny_loadPart ho ?_);refine nn fun gg=>?_;obtain ⟨c,d,da,sl⟩:=o;refine gg ?_;cases da<;>first|exact av h|cases hn
theorem xX {v:ak} {Q:Unit→az→Prop} (ho:s.heap.get? a=some o) (hc:o.cls= .type "list") (hn:notCls o=true) (h:Q () s):bx M A (checkBoundCall "list.append" ⟨[.ref a,v],[]⟩) Q E s:=by have hT:s.TypeIs (.ref a) "list":=⟨o,ho,hc⟩;delta checkBoundCall;rw [wN,vX];dsimp only;rw [if_neg (by decide)];refine ag (wpAny_isInstance hT nL ?_);rw [if_neg (by decide+kernel)];refine ag (xO ho hn ?_);rw [if_neg (by decide)];refine ag (wpAny_typeOf hT ?_);dsimp only;exact dy (a:=()) (by first|rfl|kernel_rfl) h
theorem wX {u:Addr} {id:String} {cl:String} {self:ak} {rest:List ak} {b:Builtin} {S:PySem.Spec} {Q:ak→az→Prop} (hcl:cl="builtin_function_or_method"∨cl="method-wrapper") (hu:s.heap.get? u=some {cls:= .type cl,data:= .fields #[.builtin id,self]})
  (Jl: ∀(Q:Unit→az→Prop) (E:ak→az→Prop),Q () s→bx (model prog w) A.in1 (checkBoundCall id ⟨self::rest,[]⟩) Q E s) (hq:plainId id=true) (hb:entryFor table id=some b) (g:Meets (b ⟨self::rest,[]⟩) S) (h:S A (wants Q E) s):
  bx (model prog w) A (call (.ref u) rest) Q E s:=by
 refine wpAny_call (codeAny_of_tree ?_);show bx _ A.in1 (callAny (.ref u) ⟨rest,[]⟩) _ _ s;refine ag (nw hu ?_);obtain h1:(jz cl==jz "method"||jz cl==jz "builtin_function_or_method"||jz cl==jz "method-wrapper")=true:=by rcases hcl with rfl|rfl<;>decide
 obtain h2:(jz cl != jz "method")=true:=by rcases hcl with rfl|rfl<;>decide
 refine kd (decide_eq_true h1) (kd (decide_eq_true h2) ?_);refine ag (Jl _ _ ?_);refine ag (av (av ?_));refine ⟨plainId_quiet hq _,codeAny_builtin hb ?_⟩;rw [rn hq];exact g prog w A (wants Q E) s h
end
end
section
open PySem.Builtin PySem.Builtin.ObjectAttr
open PySem.SeqAt
abbrev wE:String:="builtin_function_or_method"
def Ax (cl id:String):List ak→Obj→Prop:=fun vs o=>o={cls:= .type cl,data:= .fields #[.builtin id,vs.headD .none]}
def PX (C:Cx) (u:Nat) (ps:List PV) (st:St) (K:PV→St→Prop):Prop:= ∀B T σ s a vs,Mt C B T σ st s→σ[u]? =some a→cF σ ps vs→bx C.M C.A (call (.ref a) vs) (aO C B T VR σ K) C.E s
section
variable {A:jx}{E Q:ak→az→Prop}{M:pd}{cl:String}{s:az}{u:Addr}
variable {C:Cx} {st:St} {K:PV→St→Prop} {n:Nat}
inductive Nd (K:PV→St→Prop) (p:PV) (st1:St):Prop
 |mk (i:Nat) (xs:List PV) (h1:p= .ref i) (h2:st1.h[i]? =some (.list xs)) (k:K (.ref st1.h.length) ⟨st1.v,st1.h++[.raw (Ax wE "list.append") [.ref i]]⟩):Nd K p st1
theorem Je {o:dh} {pos:Pos} (h:WE C o st (Nd K))
  (hbase:ij o "append" C.env (eval o C.env)=eval o C.env:=by kernel_rfl):WE C (.Attribute o "append" pos) st K:=by
 walk_at "T C,st,K,o,pos h hbase";walk_at "I B,T,σ,s x";rw [arm_eval_Attribute,hbase];refine ag (bc (h _ _ _ _ x) (fun v s1 hzz=>hzz.el fun τ p st1 h1 h2 hzy=>?_) fun _ _ e=>e);obtain ⟨i,xs,hp,hi,hK⟩:=hzy;subst hp;refine aE (h1) fun a ha qz2=>?_;subst qz2;refine nn fun gg=>?_;obtain ⟨ob,e,vs,m,rfl,r⟩:=h2.hr.at_ i a _ ha hi;refine gg ?_;refine ag (fk (ag (cj (xP e rfl rfl rfl fun t=>?_))));refine ag (wpAny_letTemporaryGo (av ?_));refine aO.up (τ:=τ) ?_;refine aO.new ((h2.alloc (o:=oS "list.append" (.ref a)) (p:= .raw (Ax wE "list.append") [.ref i]) rfl ⟨_,b9 _ rfl,[.ref a],rfl, .cons ⟨a,?_,rfl⟩ .nil⟩).tok t) h2.hr.len hK;exact bh (af.mp ha).1▸ha
theorem uY {xs:Array ak} {k:Keeper→Sem ak} (hcl:cl="builtin_function_or_method"∨cl="method-wrapper")
  (ho:s.heap.get? u=some {cls:= .type cl,data:= .fields xs}) (h:bx M A (k .machine) Q E s):bx M A (keeperOf (.ref u)>>=k) Q E s:=by
 refine ag (ag (nw ho ?_));refine kd (by rcases hcl with rfl|rfl<;>rfl) (av ?_);rw [if_pos (by rcases hcl with rfl|rfl<;>rfl)];exact h
theorem sZ {pos:Pos} {e:dh} {rest:List dh} {env:Env} (hcl:cl="builtin_function_or_method"∨cl="method-wrapper")
  (h:bx M A (spliced (backTo pos (b0 (e::rest) env))) (fun vs s₁=>(∃xs,s₁.heap.get? u=some {cls:= .type cl,data:= .fields xs})∧bx M A (call (.ref u) vs) Q E s₁) E s)
  (he:b0 (e::rest) env=(false,eval e env)::b0 rest env) (hplain:(backTo pos (b0 rest env)).any (·.1)=false):
  bx M A (callWith pos (.ref u) [] (backTo pos (b0 (e::rest) env)) (backToKw pos (ej [] env))) Q E s:=by
 rw [he] at h ⊢;delta callWith;have h2:bx M A (evalArgs (.ref u) true (backTo pos ((false,eval e env)::b0 rest env)) []) (fun x s₁=>(∃xs,s₁.heap.get? u=some {cls:= .type cl,data:= .fields xs})∧bx M A (call (.ref u) ([]++x.pos) x.kw) Q E s₁) E s:=evalArgs_plain h;refine ag (cj (bc h2 (fun x s₁ h₁=>ag (fk ?_)) fun _ _ x=>x));obtain ⟨⟨xs,ho⟩,hcall⟩:=h₁;refine uY hcl ho ?_;rw [(by show ((false||(backTo pos (b0 rest env)).any (·.1))||false)=false;rw [hplain];rfl:((backTo pos ((false,eval e env)::b0 rest env)).any (·.1)||(backToKw pos (ej [] env)).any (·.1.isNone))=false)];exact ag (bc hcall (fun r s₂ hr=>ag (cj (wpAny_point (av hr)))) fun _ _ x=>x)
inductive Na (C:Cx) (u:Nat) (cl:String) (K:PV→St→Prop) (ps:List PV) (st2:St):Prop
 |mk (id:String) (q:PV) (h:st2.h[u]? =some (.raw (Ax cl id) [q])) (k:PX C u ps st2 K):Na C u cl K ps st2
inductive Nf (C:Cx) (pos:Pos) (e:dh) (rest:List dh) (cl:String) (K:PV→St→Prop) (f:PV) (st1:St):Prop
 |mk (u:Nat) (h:f= .ref u) (k:WA C pos (e::rest) st1 (Na C u cl K)):Nf C pos e rest cl K f st1
theorem gE {func e:dh} {rest:List dh} {pos:Pos} (cl:String) (hcl:cl="builtin_function_or_method"∨cl="method-wrapper") (h:WE C func st (Nf C pos e rest cl K))
  (he:eval (.Call func (e::rest) [] pos) C.env=(do callWith pos (←eval func C.env) [] (backTo pos (b0 (e::rest) C.env)) (backToKw pos (ej [] C.env))):=by rfl)
  (he':b0 (e::rest) C.env=(false,eval e C.env)::b0 rest C.env:=by rfl) (hp:(backTo pos (b0 rest C.env)).any (·.1)=false:=by rfl):WE C (.Call func (e::rest) [] pos) st K:=by
 walk_at "T C,st,K,func,e,rest,pos,cl hcl h he he' hp";walk_at "I B,T,σ,s x";refine Call_ (bc (h _ _ _ _ x) (fun f s1 hzz=>hzz.el fun τ p st1 h1 h2 hzy=>?_) fun _ _ e=>e) he;obtain ⟨u,hpu,h3⟩:=hzy;subst hpu;refine aE (h1) fun a ha qz2=>?_;subst qz2;refine sZ hcl (bc (h3 _ _ _ _ h2) (fun vs s2 hzz=>hzz.el fun τ' ps st2 k1 k2 kz=>?_) fun _ _ e=>e) he' hp;obtain ⟨bid,q,k3,k4⟩:=kz;have ha':(σ++τ++τ')[u]? =some a:=by rw [bh (af.mp ha).1];exact ha
 refine nn fun gg=>?_;obtain ⟨ob,e,vs',rfl,r⟩:=k2.hr.at_ u a _ ha' k3;refine gg ?_;exact ⟨⟨_,e⟩,gH (gH (k4 _ _ _ _ _ vs k2 ha' k1))⟩
theorem eJ {u i:Nat} {xs:List PV} {p:PV} (hu:st.h[u]? =some (.raw (Ax wE "list.append") [.ref i])) (hi:st.h[i]? =some (.list xs)) (hz:xs.length≤big) (h:K .none {st with h:=st.h.set i (.list (xs++[p]))}):PX C u [p] st K:=by
 walk_at "T C,st,K,u,i,xs,p hu hi hz h";walk_at "I B,T,σ,s,a,vs x ha hv";cases hv with|cons q r=>
  cases r;refine nn fun gg=>?_;obtain ⟨ob,e,us,rfl,r⟩:=x.hr.at_ u a _ ha hu;refine gg ?_;cases r with|cons r1 r2=>
   cases r2;refine aE (r1) fun b hb qz2=>?_;subst qz2;refine cH (x.list hb hi) fun ws m' e' r'=>?_;obtain hsz:ws.toArray.size≤sizeLine:=by rw [cb,r'.length];exact bF hz
   refine wX (.inl rfl) e (fun Q E hQ=>xX e' rfl rfl hQ) F.slot_list_append.plain F.entry_list_append (AutoListH.list_append_list_val_0 b ws.toArray m' _ hsz) ⟨e',?_⟩;exact aO.none (rR x hb e' (us:=ws++[_]) (by simp) (r'.append (.cons q .nil))) h
end
end
section
open PySem.SeqAt
section
variable {i:Nat}{ls:List (List Nat)}
variable {C:Cx} {st:St} {K:PV→St→Prop} {n:Nat}
def dH (ls:List (List Nat)):List PV:=aB (ls.map tx)
theorem bG (ls:List (List Nat)):(dH ls).length=ls.length:=by simp [dH,aB]
theorem iC (a b:List (List Nat)):dH (a++b)=dH a++dH b:=by simp [dH,aB]
theorem Fi {l:List (List Nat)}: ∀y∈dH l,y.atom:=oF
inductive lO (H:List PO):PV→List Nat→Prop
 |str (z:Str):lO H (.str z) z.cps.toList
 |list {i:Nat} {l:List Nat}:H[i]? =some (.list (aB (l.map dO)))→lO H (.ref i) l
theorem lO.pi {C:Cx} {v:List (Option PV)} {H:List PO} {p:PV} {l:List Nat} (hq:C.Quiet) (h:lO H p l): ∃nx,PI C p ⟨v,H⟩ nx∧ ∀k t',nx k (H++t')=some (l.map fun c=>PV.str (dO c))[k]? :=by
 cases h with
 |str z=>exact ⟨Nv z,Li hq,fun k t'=>by delta Nv;rw [b8]⟩
 |list hi=>exact ⟨iS _,cN hq hi,fun k t'=>by delta iS;rw [old_get hi];simp [aB];rfl⟩
theorem Gi (h:ls.flatten.length≤big):JoinOk "" (ls.map tx)=true:=by
 refine joinOk_of ?_;obtain e:((ls.map tx).map (·.length)).sum=ls.flatten.length:=by rw [sx,cw];rfl
 have h':ls.flatten.length≤100000:=h;rw [e,pI,aH];show _+_*0≤_;exact aq (by assumption) (ax _ _)
theorem Gp (h: ∀x∈ls,x.length≤3):ls.flatten.length≤ls.length*3:=by
 induction ls with
 |nil=>simp
 |cons a r ih=>obtain h1:=h a (.head _);obtain h2:=ih fun y hy=>h y (.tail _ hy);rw [br,aj,cn,py];exact aW 0x125060340e23508321a0321c462 1057 [_,_,_] h1 h2
theorem gD (hi:st.h[i]? =some (.list (dH ls))) (hz:ls.flatten.length≤big) (h:K (.str (tx ls.flatten)) st):PC C (.builtin "str.join") [.str "", .ref i] st K:=xN hi (Gi hz) (by rw [Jv];exact h)
theorem Ol {b:Bool} {a c:Str} {k k':Nat} {p p':Pos} (h:K (.str (if b=true then a else c)) st):if b=true then WE C (.Constant (.str a) k p) st K else WE C (.Constant (.str c) k' p') st K:=by
 cases b
 ·exact e_str h
 ·exact e_str h
theorem Rr:("=20":Str)=tx [61,50,48]:=by decide+kernel
theorem Rq:("=09":Str)=tx [61,48,57]:=by decide+kernel
theorem Hf (h:ls.flatten.length+ls.length≤16000000):JoinOk "\n" (ls.map tx)=true:=by
 refine joinOk_of ?_;obtain e:((ls.map tx).map (·.length)).sum=ls.flatten.length:=by rw [sx,cw];rfl
 rw [e,rA,aH,bl];show _+_*1≤_;lia
theorem tL (hi:st.h[i]? =some (.list (dH ls))) (hz:ls.flatten.length+ls.length≤16000000) (h:K (.str (tx (aS ls))) st):PC C (.builtin "str.join") [.str "\n", .ref i] st K:=xN hi (Hf hz) (by rw [Om];exact h)
end
end
section
open PySem.SeqAt
def dY (l:List Nat):List Nat:=(l.reverse.dropWhile ie).reverse
theorem lQ (l:List Nat):dY l=l.take (l.length - (l.reverse.takeWhile ie).length):=by delta dY;obtain h:=o9 (p:=ie) (l:=l.reverse);have h2:=congrArg List.reverse h;rw [sv,List.reverse_reverse] at h2;obtain h3:=congrArg gt h2;rw [aj,l8,l8] at h3;generalize l.reverse.takeWhile ie=a at*;generalize l.reverse.dropWhile ie=b at*;rw [←h2,aj,l8,l8,Nat.add_sub_cancel];rw [List.take_left' (by simp)]
theorem Av (l:List Nat):Txt.rstrip (tx l)=tx (dY l):=by
 delta Txt.rstrip;rw [PyProof.Rows.stripBy_eq];rw [lQ];show Builtin.Str.strSub (tx l) 0 ((tx l).length - (((tx l).cps.toList.drop 0).reverse.takeWhile ie).length)=_;rw [g8,pX,aH];show (⟨l.toArray.extract 0 _⟩:Str)=_;delta tx
 congr 1
 simp
theorem mZ (l:List Nat):(dY l).length≤l.length:=by rw [lQ,gy];exact pk _ _
theorem Fw (l:List Nat):ro (tx l) (tx [10])=decide (l.getLast? =some 10):=by
 delta ro;rw [aH,aH,StrLaws.subAt_eq,pX,pX,aH];show (decide (0+1≤l.length)&&((l.drop (l.length - 1)).take 1==[10]))=_;rw [fa];rcases ju l with rfl|⟨a,c,rfl⟩
 ·rfl
 ·simp
section
variable {KF:Fl→St→Prop}{l:List Nat}{pos:Pos}{α:Type}
variable {C:Cx} {st:St} {K:PV→St→Prop} {n:Nat}
theorem lD {L:List (List Nat)} (h:l∈L):l.length≤L.flatten.length:=by
 induction L with
 |nil=>cases h
 |cons a r ih=>
  rw [br,aj];rcases ar.mp h with rfl|h
  ·exact dw _ _
  ·have:=ih h;exact aq (by assumption) (ax _ _)
theorem lV (xs:List α) (a b:Nat):bH xs (some (a:Int)) (some (b:Int))=(xs.take b).drop a:=by rw [uF,mh]
theorem oB (l:List α) (a:Nat):bH l (some (a:Int)) (some (-1))=l.dropLast.drop a:=by
 obtain e2:clipAt l.length (a:Int)=min a l.length:=by have:=clipAt_cast l.length a;rw [if_neg (by simp)] at this;exact aQ 0xa30620ddac70dc2021c1 0x10040008001080010040008021000010040100001000010040100021080010040008021000010040008001000010040100021000010040100001 [_,_,_] this
 delta bH;simp only [lr,rS,e2];rw [lm];by_cases h:a≤l.length - 1
 ·rw [jt (by exact aQ 0x121064b0a041 0x108021 [_,_] h),mh]
 ·obtain e3:(kr (l.length - 1) l).drop a=[]:=dt (by rw [gy];exact aQ 0x484c0ac280ee4b0a022 0x1080000040000401004000040008000004000040008001 [_,_] h)
  rw [e3];by_cases h2:a≤l.length
  ·rw [jt h2,show l.length - 1 - a=0 by simp_all,jg]
  ·rw [j8 (by exact aQ 0x4841dc822 33 [_,_] h2),show l.length - 1 - l.length=0 by simp,jg]
theorem Mk:(" \t":Str)=tx [32,9]:=by decide+kernel
theorem mM (hz:l.length≤100000) (hl:l≠[]) (h:K (.str (tx [l.getLast hl])) st):PG C (.str (tx l)) (.int (-1)) st K:=by have:=gd.mpr hl;exact zO (by decide) (by rw [aH];lia) (by rw [aH];exact bi _) (by rw [yR hl];exact h)
theorem Fm {k:Nat} {i:Int} (hi:i=(k:Int)) (hz:l.length≤100000) (hk:k<l.length) (h:K (.str (tx [l[k]])) st):PG C (.str (tx l)) (.int i) st K:=by subst hi;exact zO ⟨by simp,Df (aq (de hk) hz)⟩ (by rw [aH];simp) (by rw [aH];exact lh.mpr (by assumption)) (by rw [Ix hk];exact h)
theorem Cg:("0123456789abcdefABCDEF":Str)=tx hU:=(mC _).symm
theorem s_cont (h:KF .cont st):W1 C (.Continue pos) st KF:=fun B T σ s x=>wpAny_Continue (aO.now (b:=Fl.cont) rfl x h)
theorem s_brk (h:KF .brk st):W1 C (.Break pos) st KF:=fun B T σ s x=>wpAny_Break (aO.now (b:=Fl.brk) rfl x h)
def kB (a:Nat):Bool:=decide (a∈hU)
def dG:List Nat→List Nat
 |[]=>[]
 |[c]=>if c=61 then [] else [c,10]
 |[c,a]=>c::dG [a]
 |c::a::b::r=>if c=61∧kB a=true∧kB b=true then (hv a*16+hv b)::(if r=[] then [10] else dG r) else c::dG (a::b::r)
theorem jC: ∀l:List Nat,(dG l).length≤l.length+1
 |[]=>by simp [dG]
 |[c]=>by unfold dG;split<;>simp
 |[c,a]=>by have:=jC [a];unfold dG;simp at this ⊢;assumption
 |c::a::b::r=>by
  have h1:=jC r;have h2:=jC (a::b::r);unfold dG;split
  ·split
   ·simp
   ·simp;exact aQ 0x928681064a0a041 33 [_,_] h1
  ·simp at h2 ⊢;assumption
def bJ (l:List Nat):List Nat:=if dY l=[] then [10] else dG (dY l)
theorem tT (l:List Nat):(bJ l).length≤l.length+1:=by
 delta bJ;split
 ·simp
 ·have:=jC (dY l);have:=mZ l;lia
def pD (e:List Nat) (L:List (List Nat)):List Nat:=if e=[] then [] else
 let d:=L.flatMap bJ
 if ¬(e.getLast? =some 13∨e.getLast? =some 10)∧d.getLast? =some 10 then d.dropLast else d
end
end
section
open PySem.SeqAt
section
variable {H J:List PO}{elt iter target:dh}{i j k:Nat}{l:List Nat}{pos:Pos}{scope:im}
variable {C:Cx} {st:St} {K:PV→St→Prop} {n:Nat}
theorem eB {ifs:List dh} (own:List Str) (S:bS C n) (hq:C.Quiet) (n₀:Nat) (hb:gJ C scope own n₀=true)
  (h:tJ C iter st (tM n (fun l p=>p.bd l) elt target ifs scope own n₀ C (fun l v H=>K (.ref l) ⟨v,H⟩)))
  (hs: ∀env x,dz iter env x=pure x:=by intro _ _;rfl) (ht: ∀it v,d9 target it v=pure ():=by intro _ _;rfl):
  WE C (.ListComp elt [⟨target,iter,ifs,0⟩] scope pos) st K:=
 lW own (gV _ _ _ _ _ _) rfl S hq n₀ hb (h.mono fun nx st1 hzz=>by obtain ⟨hv,items,f,hz,hnx,turn,hK⟩:=hzz;exact iF (A:=fun l p=>p.bd l) (fun _ x=>x) hv hz hnx turn hK) hs ht
inductive sW (n:Nat) (elt target:dh) (scope:im) (own:List Str) (n₀:Nat) (C:Cx) (KE:Nat→List (Option PV)→List PO→Prop) (nx:Nat→List PO→Option (Option PV)) (st1:St):Prop
 |mk (hv:st1.v.length=n₀) (items:List PV) (f:PV→List PV):items.length≤big→(∀k t,nx k (st1.h++t)=some items[k]?)→
   (∀L,bS (C.blk scope own n₀ L) n→(C.blk scope own n₀ L).Quiet→ ∀q t,q∈items→PA (C.blk scope own n₀ L) target q ⟨st1.v++own.map (fun _=>none),st1.h++t⟩ fun st3=>
    WE (C.blk scope own n₀ L) elt st3 fun p st5=>p= .ref (st1.h++t).length∧(∀(i:Nat) (w:PV),(st1.v++own.map (fun _=>none))[i]? =some (some w)→st5.v[i]? =some (some w))∧st5.h=st1.h++t++[.list (f q)])→
   KE st1.h.length st1.v (st1.h++ .list (cQ (st1.h.length+1) items.length)::items.map fun q=> .list (f q))→sW n elt target scope own n₀ C KE nx st1
theorem rE {elt target:dh} {scope:im} {own:List Str} {n₀:Nat} {KE:Nat→List (Option PV)→List PO→Prop} {nx:Nat→List PO→Option (Option PV)} {st1:St} (hzz:sW n elt target scope own n₀ C KE nx st1):lX n target [] (fR elt) scope own n₀ C KE nx st1:=by
 walk_at "T C,n,elt,target,scope,own,n₀,KE,nx,st1 hzz";obtain ⟨hv,items,f,hz,hnx,turn,hK⟩:=hzz;refine ⟨hv,fun k s=>k≤items.length∧s=⟨st1.v++own.map (fun _=>none),st1.h++ .list (cQ (st1.h.length+1) k)::(items.take k).map fun q=> .list (f q)⟩,items.length,⟨cz _,by rfl⟩,?_,?_,?_,?_⟩
 ·rintro k _ q ⟨_,rfl⟩ hq
  rw [hnx] at hq;exact (af.mp (ba hq)).1
 ·rintro L SB QB k _ q ⟨_,rfl⟩ hq
  rw [hnx] at hq;obtain ⟨hk,hq⟩:=af.mp (ba hq);intro B T σ s v y hvr;refine go (turn L SB QB q _ (hq▸cg hk) B T σ s v y hvr) fun _ s1 τ _ st3 _ h2 h3=>⟨τ,(),st3,trivial,h2,?_⟩;refine wi_nil ?_;rw [if_pos rfl];refine nS QB (h3.mono fun p st5 hzz=>?_);obtain ⟨e1,kv,kh⟩:=hzz;obtain e3:(st5.h)[st1.h.length]? =some (.list (cQ (st1.h.length+1) k)):=by rw [kh,aa,cq];exact cJ
  refine ⟨_,e3,by rw [eK];exact aq (de hk) hz,?_⟩;refine Gc.names (st1.v++own.map (fun _=>none)) (by dsimp only;rw [f0,kh];simp) kv ⟨hk,?_⟩;dsimp only;rw [kh,aa,cq,cS,e1,qK,d7,ae hk,bv,hq];obtain e4:(st1.h++PO.list (cQ (st1.h.length+1) k)::qd (fun q=>PO.list (f q)) (kr k items)).length=st1.h.length+1+k:=by simp;exact aQ 0x28a128280a941430620cc62 0x4210040008001 [_,_,_] hk
  rw [e4];rfl
 ·rintro k _ ⟨_,rfl⟩;rw [hnx];simp
 ·rintro k _ ⟨hk',rfl⟩ hq
  rw [hnx] at hq;obtain hk:=bz.mp (ba hq);obtain this:k=items.length:=by exact aW 0x14106420c822 0x2008021 [_,_] hk' hk
  subst this;rw [iz];exact hK
theorem Di (own:List Str) (S:bS C n) (hq:C.Quiet) (n₀:Nat) (hb:gJ C scope own n₀=true)
  (h:tJ C iter st (sW n elt target scope own n₀ C (fun l v H=>K (.ref l) ⟨v,H⟩)))
  (hs: ∀env x,dz iter env x=pure x:=by intro _ _;rfl) (ht: ∀it v,d9 target it v=pure ():=by intro _ _;rfl):
  WE C (.ListComp elt [⟨target,iter,[],0⟩] scope pos) st K:=
 lW own (gV _ _ _ _ _ _) rfl S hq n₀ hb (h.mono fun nx st1 hzz=>rE hzz) hs ht
theorem Md {KF:Fl→St→Prop} {y:Str} {p' spos:Pos} (own:List Str) (S:bS C n) (hq:C.Quiet) (n₀:Nat) (hb:gJ C scope own n₀=true)
  (h:tJ C iter st (sW n elt target scope own n₀ C (fun l v H=>KF .next ⟨v.set i (some (.ref l)),H⟩)))
  (hs: ∀env x,dz iter env x=pure x:=by intro _ _;rfl) (ht: ∀it v,d9 target it v=pure ():=by intro _ _;rfl)
  (hx:C.vis.lookup y=some i) (hk:C.env.kindOf y=some .local) (hsw:swapsWith (.ListComp elt [⟨target,iter,[],0⟩] scope pos) (some (.Name y p')) spos.line C.env=pure true):
  W1 C (.Assign [.Name y p'] (.ListComp elt [⟨target,iter,[],0⟩] scope pos) spos) st KF:=
 yP own (gV _ _ _ _ _ _) rfl S hq n₀ hb (h.mono fun nx st1 hzz=>rE hzz) hs ht hx hk hsw
theorem cG (m k:Nat) (t:List PO):nZ m k t=some ((am m).map fun k:Nat=>PV.int k)[k]? :=by
 delta nZ;rw [b8];by_cases h:k<m
 ·rw [if_pos h,ka h];rfl
 ·rw [if_neg h,ft (by simpa using h)];rfl
theorem dX.app {p:PV} {d:PyData} (y:dX H p d):dX (H++J) p d:=
 dX.rec (motive_1:=fun p d _=>dX (H++J) p d) (motive_2:=fun ps ds _=>DeepAll (H++J) ps ds) .none .bool .int .str (fun h _ s=> .list (old_get h) s) (fun h _ s=> .tuple (old_get h) s) .nil (fun _ _ h s=> .cons h s) y
theorem DeepAll.app {ps:List PV} {ds:List PyData} (y:DeepAll H ps ds):DeepAll (H++J) ps ds:=
 DeepAll.rec (motive_1:=fun p d _=>dX (H++J) p d) (motive_2:=fun ps ds _=>DeepAll (H++J) ps ds) .none .bool .int .str (fun h _ s=> .list (old_get h) s) (fun h _ s=> .tuple (old_get h) s) .nil (fun _ _ h s=> .cons h s) y
def pn (l:List Nat):List PV:=aI (l.map fun k:Nat=>(k:Int))
theorem bE (l:List Nat):(pn l).length=l.length:=by simp [pn,aI]
theorem dI (l:List Nat):pn l=l.map fun k:Nat=>PV.int k:=by simp [pn,aI]
theorem pV (hk:k<l.length):(pn l)[k]? =some (.int (l.getD k 0:Nat)):=by rw [dI,b8,ao,ae hk];rfl
theorem mS (a b:List Nat):pn (a++b)=pn a++pn b:=by simp [dI]
def kT (H:List PO) (i:Nat) (rows:List (List Nat)):Prop:= ∃a,H[i]? =some (.list (cQ a rows.length))∧ ∀m row,rows[m]? =some row→H[a+m]? =some (.list (pn row))
theorem kT.new {rows:List (List Nat)}:kT (H++ .list (cQ (H.length+1) rows.length)::(rows.map fun r=> .list (pn r))++J) H.length rows:=by
 refine ⟨H.length+1,?_,fun m row e=>?_⟩
 ·rw [aa];exact cJ
 ·obtain hm:=(af.mp e).1
  rw [aa,bf (by exact jP 0x9284a0a021 1 [_,_]),show H.length+1+m - H.length=m+1 by exact jP 0x14505025854250501 0x42000401 [_,_]];rw [cq,kx,bh (by simpa using hm),b8,e];rfl
theorem lC {a n m:Nat} (h:m<n):(cQ a n)[m]? =some (.ref (a+m)):=by delta cQ;rw [b8,ka h];rfl
theorem aZ {p:Nat→Bool} {f:PV→Option PV} {g:Nat→PV} (h: ∀k∈l,f (.int k)=if p k=true then some (g k) else none):(l.map fun k:Nat=>PV.int k).filterMap f=(l.filter p).map g:=by
 induction l with
 |nil=>rfl
 |cons k r ih=>
  obtain h1:=h k (.head _);have ih:=ih fun x hx=>h x (.tail _ hx);simp only [bg,ge,h1,c9];cases hp:p k with
  |true=>simp only [if_true,bg,ih]
  |false=>simp only [bu,if_false,ih]
theorem nG (l:List Nat):ig (l.map fun k:Nat=> .int k)=true:=by
 induction l with
 |nil=>rfl
 |cons a r ih=>exact ih
theorem kC (l:List Nat):i5 (l.map fun k:Nat=>PyData.int k)≤1:=by
 induction l with
 |nil=>exact cz _
 |cons a r ih=>simp only [bg,i5,j0];assumption
theorem nF (l:List Nat):shaped (.list (l.map fun k:Nat=> .int k))=true:=by delta shaped;rw [bt];refine ⟨nG l,?_⟩;have:=kC l;rw [decide_eq_true_eq,j0];exact co (by assumption) (by decide)
theorem dM (H:List PO): ∀l:List Nat,DeepAll H (pn l) (l.map fun k:Nat=> .int k):=by
 intro zi;induction zi with
 |nil=>exact .nil
 |cons z r ih=>exact .cons (.int z) (ih)
theorem vL (l:List Nat):oi (.list (l.map fun k:Nat=> .int k)) (.list [])=l.isEmpty:=by cases l<;>rfl
theorem zH (S:bS C n) (hi:st.h[i]? =some (.list (pn l))) (hj:st.h[j]? =some (.list [])) (h:K (.bool (!l.isEmpty)) st):P2 C (d0 .NotEq) (.ref i) (.ref j) st K:=
 Ju S (.list hi (dM _ l)) (.list hj .nil) (nF l) rfl (by rw [vL];exact h)
theorem Ic (S:bS C n) (hi:st.h[i]? =some (.list (pn l))) (hj:st.h[j]? =some (.list [])) (h:K (.bool l.isEmpty) st):P2 C (d0 .Eq) (.ref i) (.ref j) st K:=
 Jy S (.list hi (dM _ l)) (.list hj .nil) (nF l) rfl (by rw [vL];exact h)
theorem Fd (l:List Nat) (k:Nat):((l.map fun x:Nat=>(x:Int)).any (· ==(k:Int)))=l.contains k:=by
 induction l with
 |nil=>rfl
 |cons a r ih=>
  rw [bg,on,ih,oz]
  congr 1
  rw [fa,beq_iff_eq,beq_iff_eq];lia
theorem xD (hi:st.h[i]? =some (.list (pn l))) (h:K (.bool (l.contains k)) st):P2 C (d0 .In) (.int k) (.ref i) st K:=Oj hi (by rw [Fd];exact h)
end
end
section
open PySem.SeqAt
structure eD (C:Cx) (B:Heap) (σ:List Addr) (a:Addr):Prop where
 nσ:a∉σ
 np:a∉C.privs
 nf:a∉C.fs
 nb:B.get? a=none
inductive Od (C:Cx) (B:Heap) (σ:List Addr) (h:Heap) (a:Addr) (vs:Array ak):Prop
 |mk (tb otb tvs) (h1:vs[1]? =some (.ref tb)) (h2:tb≠a) (h3:eD C B σ tb) (h4:h.get? tb=some otb) (h5:otb.data= .fields tvs) (h6:5≤tvs.size):Od C B σ h a vs
inductive Mu (C:Cx) (B:Heap) (σ:List Addr) (h:Heap) (cls:ak) (a:Addr) (traced clean:Bool):Prop
 |mk (oe vs) (h1:h.get? a=some oe) (h2:oe.cls=cls) (h3:oe.data= .fields vs) (h4:6≤vs.size) (h5:clean=true→vs[2]? =some .none) (h6:(traced=false∧vs[1]? =some .none)∨Od C B σ h a vs):Mu C B σ h cls a traced clean
structure cM (C:Cx) (B:Heap) (σ:List Addr) (h:Heap) (cls:ak) (a:Addr) (traced clean:Bool):Prop where
 lo:eD C B σ a
 at_:Mu C B σ h cls a traced clean
section
variable {A:jx}{E:ak→az→Prop}{L a:Addr}{M:pd}{Q:Unit→az→Prop}{cls:ak}{fr outer:List Env}{k t:Bool}
variable {C:Cx} {B:Heap} {T:List Addr} {σ:List Addr} {st:St} {s:az}
theorem Mt.slots (x:Mt C B T σ st s) {h':Heap} (k:Heap.SlotsOnly C.fs s.heap h'):Mt C B T σ st {s with heap:=h'}:=by
 walk_at "T C,B,T,σ,st,s x h', k";obtain ke: ∀b o,s.heap.get? b=some o→b∉C.fs→h'.get? b=some o:=fun b o e n=>(k.2.1 b n).trans e;refine ⟨x.ok,x.top,x.hr.keep fun a ha=>k.2.1 a fun hf=>x.fr.nσ a hf ha,?_,fun z hz c hc=>?_,fun p hp=>?_,x.priv,fun b o e n n' n2=>ke b o (x.keep b o e n n' n2) n2,x.sub,x.pre,x.low,x.gens,x.drawn,x.os,
  ⟨fun f m=>?_,x.fr.nσ,fun f m w o e=>?_⟩⟩
 ·refine aE (x.vars) fun m hm hv=>?_
  refine ⟨m,Heap.Ns.slots hm fun o e=>k.2.2 _ o e,fun y i w h1 h2=>?_⟩;refine aE (hv y i w h1 h2) fun u h3 h4=>?_;exact ⟨u,h3,h4.to id fun c _ i=>i.elim fun o q=>(k.2.2 c o q.1).elim fun _ e3=>⟨_,e3,q.2⟩⟩
 ·refine cH (x.cl z hz c hc) fun v o e1 e2=>?_
  obtain ⟨sl,e3⟩:=k.2.2 c o e1;exact ⟨v,_,e3,e2⟩
 ·obtain ⟨o,e⟩:=x.pal p hp
  obtain ⟨sl,e3⟩:=k.2.2 p o e;exact ⟨_,e3⟩
 ·refine aE (x.fr.al f m) fun o e d=>?_
  obtain ⟨sl,e3⟩:=k.2.2 f o e;exact ⟨_,e3,d⟩
 ·obtain ⟨sl,e1⟩:=x.fr.kp f m w o e
  obtain ⟨sl',e2⟩:=k.2.2 f _ e1;exact ⟨sl',e2⟩
theorem Mt.offL (x:Mt C B T σ st s) {h':Heap} (l:eD C B σ a) (hs:pq a s.heap h') (t:Nat):Mt C B T σ st {s with heap:=h',toks:=t}:=x.off t hs l.nσ l.np l.nb l.nf
theorem Mt.loose (x:Mt C B T σ st s) (ha:s.heap.objs.size≤a):eD C B σ a:=
 ⟨fun hm=>ci _ (c6 (x.hr.lt a hm) ha),fun hm=>let ⟨o,e⟩:=x.pal a hm;absurd (dc e) (fe.mpr ha),x.fr.fresh ha,
  x.fresh a ha fun hm=>ci _ (c6 (x.hr.lt a (x.pre.subset hm)) ha)⟩
theorem Mt.funFrames (x:Mt C B T σ st s) (h:C.A.frames=some fr):s.heap.FunFrames ({}:Heap) fr:=by
 obtain key: ∀l:List Env,(∀e∈l,e.scope.kind= .function∧ ∃f,e.frame=some f)→(∀f∈l.filterMap (·.frame), ∃o,s.heap.get? f=some o∧ ∀vs,o.data≠ .fields vs)→s.heap.FunFrames ({}:Heap) l:=by
  intro l;induction l with
  |nil=>intro _ _;trivial
  |cons e r ih=>
   intro h1 h2;obtain ⟨hk,f,hf⟩:=h1 e (.head _);obtain ⟨o,ho,hd⟩:=h2 f (by rw [ge,hf];exact .head _);refine ⟨by rw [hk];decide,⟨f,o,hf,?_,ho,hd⟩,ih (fun y hy=>h1 y (.tail _ hy)) fun y hy=>h2 y ?_⟩
   ·cases q:({}:Heap).get? f with
    |none=>rfl
    |some o=>exact absurd (dc q) (fe.mpr (cz _))
   ·rw [ge,hf];exact .tail _ hy
 refine fW (x.ok.frs) fun e0 r0 g1 g2 g3=>?_;obtain e:fr=e0::r0:=ba (h.symm.trans g1);refine key fr (fun y hy=>g3 y (e▸hy)) fun f hf=>x.fr.al f ?_;delta Cx.fs;rw [h];exact hf
theorem Of (h:C.A.frames=some fr):C.fs=fr.filterMap (·.frame):=by delta Cx.fs;rw [h];rfl
theorem newEntry {head:ak} {hadNext:Bool} (x:Mt C B T σ st s) (hx:cM C B σ s.heap cls a t k)
  (hfr:C.A.frames=some (C.env::outer)) (hA:A.frames=C.A.frames) (hf:C.env.frame=some L) (h: ∀h',Mt C B T σ st {s with heap:=h'}→cM C B σ h' cls a true k→Q () {s with heap:=h'}):
  bx M A (do let f ←frameOf C.env;let pl ←entryPlaceOf L hadNext;let b ←qo head f .none (rawInt L) .none pl;setField (.ref a) 1 b) Q E s:=by
 obtain ⟨oe,vs,he,hc,hd,hz,h2,_⟩:=hx.at_;refine ag (wpAny_frameOf_fun (hA.trans hfr) (x.funFrames hfr) hf fun h₁ hs₁=>?_);rw [←Of hfr] at hs₁;have x1:=x.slots hs₁;have he₁:h₁.get? a=some oe:=(hs₁.2.1 a hx.lo.nf).trans he;refine ag (wpAny_entryPlaceOf fun pl hpl=>?_);delta qo newFields;refine ag (wpAny_newObj_type ?_ (hpl.sizeOk5 _ _ _ _ _));generalize hob:({cls:= .type "traceback",dict:=none,data:= .fields ([head, .ref L, .none,rawInt L, .none]++(if pl.isEmpty then jh 6 fj else pl)).toArray}:Obj)=ob;have hobd:ob.data= .fields ([head, .ref L, .none,rawInt L, .none]++(if pl.isEmpty then jh 6 fj else pl)).toArray:=by rw [←hob]
 obtain hobf:ob.isFreed=false:=gf hobd;have he₂:=cc (h:=h₁) ob he₁;refine wpAny_setField he₂ hd (by exact aq (ax _ _) (by assumption)) (h _ ?_ ?_)
 ·obtain x2:=x1.junk ob
  exact (x2.offL hx.lo (gq ..).extBut s.toks)
 ·have hTe:h₁.objs.size≠a:=gm (dc he₁)
  have hd₃:=jr hd (·.setIfInBounds 1 (fv h₁.objs.size));obtain he₃:=fu (kj (·.setIfInBounds 1 (fv h₁.objs.size))) he₂ (gf hd₃);obtain hT₃:=(iu (h₁.push ob) (kj (·.setIfInBounds 1 (fv h₁.objs.size))) (l6 hTe)).trans (b9 h₁ hobf);refine ⟨hx.lo,_,_,he₃,by rw [Obj.cls_mapFields];exact hc,hd₃,by rw [mm];exact hz,fun q=>by rw [Array.getElem?_setIfInBounds_ne (by decide)];exact h2 q, .inr ⟨h₁.objs.size,ob,_,?_,hTe,x1.loose (ay _),hT₃,hobd,?_⟩⟩
  ·rw [Array.getElem?_setIfInBounds_self];simp;exact aq (ax _ _) (by assumption)
  ·simp
theorem jQ (x:Mt C B T σ st s) (hx:cM C B σ s.heap cls a t k)
  (hfr:C.A.frames=some (C.env::outer)) (hA:A.frames=C.A.frames) (hf:C.env.frame=some L) (h: ∀h',Mt C B T σ st {s with heap:=h'}→cM C B σ h' cls a true k→Q () {s with heap:=h'}):
  bx M A (noteFrame (.ref a) C.env) Q E s:=by
 obtain ⟨oe,vs,he,hc,hd,hz,h2,h3⟩:=hx.at_;delta noteFrame;rw [hf];rcases h3 with ⟨ht,h1⟩|⟨tb,otb,tvs,h1,hne,hl,htb,hdt,hz2⟩
 ·refine ag (jf he hd h1 ?_)
  rw [if_neg (by decide)];exact newEntry x hx hfr hA hf h
 ·refine ag (jf he hd h1 ?_)
  rw [if_pos (show (fv tb != fj)=true from by simp)];obtain h3':tvs[3]? =some tvs[3]:=Array.getElem?_eq_getElem (by exact de (by assumption));refine ag (jf htb hdt h3' ?_);obtain x0:cM C B σ s.heap cls a true k:=⟨hx.lo,oe,vs,he,hc,hd,hz,h2, .inr ⟨tb,otb,tvs,h1,hne,hl,htb,hdt,hz2⟩⟩;by_cases hq:(tvs[3]==rawInt L)=true
  ·rw [if_pos hq]
   exact av (h s.heap x x0)
  ·rw [if_neg hq]
   refine ag (wpAny_setField htb hdt (by exact de (by assumption)) ?_);obtain x1:Mt C B T σ st {s with heap:=s.heap.update tb (kj (·.setIfInBounds 3 .none))}:=x.offL hl (gq ..).extBut s.toks;refine newEntry (s:={s with heap:=s.heap.update tb (kj (·.setIfInBounds 3 .none))}) x1 (t:=true) ?_ hfr hA hf h;have hd₃:=jr hdt (·.setIfInBounds 3 fj);exact ⟨hx.lo,oe,vs,(iu _ _ hne).trans he,hc,hd,hz,h2, .inr ⟨tb,_,_,h1,hne,hl,fu _ htb (gf hd₃),hd₃,by rw [mm];exact hz2⟩⟩
theorem eH {fo:Option Addr} (x:Mt C B T σ st s) (hx:cM C B σ s.heap cls a true k)
  (h: ∀h',Mt C B T σ st {s with heap:=h'}→cM C B σ h' cls a true k→Q () {s with heap:=h'}):bx M A (setFlight (.ref a) fo) Q E s:=by
 obtain ⟨oe,vs,he,hc,hd,hz,h2,h3⟩:=hx.at_;rcases h3 with ⟨ht,h1⟩|⟨tb,otb,tvs,h1,hne,hl,htb,hdt,hz2⟩
 ·cases ht
 ·delta setFlight
  refine ag (jf he hd h1 ?_);rw [if_pos (show (fv tb != fj)=true from by simp)];refine wpAny_setField htb hdt (by exact de (by assumption)) (h _ (x.offL hl (gq ..).extBut s.toks) ?_);have hd₃:=jr hdt (·.setIfInBounds 3 (fo.elim fj fun f=>rawInt f));exact ⟨hx.lo,oe,vs,(iu _ _ hne).trans he,hc,hd,hz,h2, .inr ⟨tb,_,_,h1,hne,hl,fu _ htb (gf hd₃),hd₃,by rw [mm];exact hz2⟩⟩
end
end
section
open PySem.SeqAt
section
variable {a:Addr}{cls v:ak}{k t:Bool}{s':az}{st':St}{σ':List Addr}
variable {C:Cx} {B:Heap} {T:List Addr} {σ:List Addr} {st:St} {s:az}
def Cx.hd (C:Cx) (v:ak):Cx:={C with A:=C.A.mark (some v)}
theorem Mt.hd (x:Mt C B T σ st s) (v:ak):Mt (C.hd v) B T σ st s:=
 ⟨⟨x.ok.kind,x.ok.glob,x.ok.bltn,x.ok.nd,x.ok.wlow,x.ok.ktop,x.ok.inj,x.ok.flow,x.ok.frs⟩,x.top,x.hr,x.vars,x.cl,x.pal,x.priv,x.keep,x.sub,x.pre,x.low,x.gens,x.drawn,x.os,⟨x.fr.al,x.fr.nσ,x.fr.kp⟩⟩
theorem Mt.unhd (x:Mt (C.hd v) B T σ st s):Mt C B T σ st s:=
 ⟨⟨x.ok.kind,x.ok.glob,x.ok.bltn,x.ok.nd,x.ok.wlow,x.ok.ktop,x.ok.inj,x.ok.flow,x.ok.frs⟩,x.top,x.hr,x.vars,x.cl,x.pal,x.priv,x.keep,x.sub,x.pre,x.low,x.gens,x.drawn,x.os,⟨x.fr.al,x.fr.nσ,x.fr.kp⟩⟩
theorem eD.unhd (x:eD (C.hd v) B σ a):eD C B σ a:=⟨x.nσ,x.np,x.nf,x.nb⟩
theorem eD.stay {o:Obj} (x:Mt C B T σ st s) (y:Mt C s.heap σ σ' st' s') (l:eD C B σ a) (e:s.heap.get? a=some o):eD C B σ' a∧s'.heap.get? a=some o:=by refine ⟨⟨fun hm=>?_,l.np,l.nf,l.nb⟩,y.keep a o e l.nσ (fun hw=>l.np (bZ hw)) l.nf⟩;have:=y.sub a hm l.nσ;rw [this] at e;cases e
theorem eD.out (x:Mt C B T σ st s) (hp:σ <+: σ') (l:eD C s.heap σ' a):eD C B σ' a:=by
 refine ⟨l.nσ,l.np,l.nf,?_⟩;cases e:B.get? a with
 |none=>rfl
 |some o=>have:=x.keep a o e (fun hm=>l.nσ (hp.subset (x.pre.subset hm))) (fun hw=>l.np (bZ hw)) l.nf;rw [l.nb] at this;cases this
theorem cM.stay (x:Mt C B T σ st s) (y:Mt C s.heap σ σ' st' s') (h:cM C B σ s.heap cls a t k):cM C B σ' s'.heap cls a t k:=by
 obtain ⟨oe,vs,he,hc,hd,hz,h2,h3⟩:=h.at_;obtain ⟨l1,e1⟩:=eD.stay x y h.lo he;refine ⟨l1,oe,vs,e1,hc,hd,hz,h2,h3.imp id ?_⟩
 rintro ⟨tb,otb,tvs,g1,g2,g3,g4,g5,g6⟩
 obtain ⟨l2,e2⟩:=eD.stay x y g3 g4;exact ⟨tb,otb,tvs,g1,g2,l2,e2,g5,g6⟩
theorem cM.out {h':Heap} (x:Mt C B T σ st s) (hp:σ <+: σ') (h:cM C s.heap σ' h' cls a t k):cM C B σ' h' cls a t k:=by
 obtain ⟨oe,vs,he,hc,hd,hz,h2,h3⟩:=h.at_;refine ⟨h.lo.out x hp,oe,vs,he,hc,hd,hz,h2,h3.imp id ?_⟩
 rintro ⟨tb,otb,tvs,g1,g2,g3,g4,g5,g6⟩
 exact ⟨tb,otb,tvs,g1,g2,g3.out x hp,g4,g5,g6⟩
theorem cM.unhd {v:ak} {h:Heap} {cls:ak} {a:Addr} {t k:Bool} (x:cM (C.hd v) B σ h cls a t k):cM C B σ h cls a t k:=by
 walk_at "T C,B,σ,v,h,cls,a,t,k x";obtain ⟨oe,vs,he,hc,hd,hz,h2,h3⟩:=x.at_;refine ⟨x.lo.unhd,oe,vs,he,hc,hd,hz,h2,h3.imp id ?_⟩
 rintro ⟨tb,otb,tvs,g1,g2,g3,g4,g5,g6⟩
 exact ⟨tb,otb,tvs,g1,g2,g3.unhd,g4,g5,g6⟩
end
inductive XR (C:Cx) (B:Heap) (T σ:List Addr) (cls:ak) (k:Bool) (X:St→Prop) (e:ak) (s':az):Prop
 |mk (τ:List Addr) (st':St) (a:Addr) (t:Bool):e= .ref a→Mt C B T (σ++τ) st' s'→cM C B (σ++τ) s'.heap cls a t k→X st'→XR C B T σ cls k X e s'
theorem XR.up {C:Cx} {B:Heap} {T σ τ:List Addr} {cls:ak} {k:Bool} {X:St→Prop} {e:ak} {s':az} (h:XR C B T (σ++τ) cls k X e s'):XR C B T σ cls k X e s':=by obtain ⟨τ',st',a,t,h1,h2,h3,h4⟩:=h;rw [aa] at h2 h3;exact ⟨_,st',a,t,h1,h2,h3,h4⟩
inductive Qr (C:Cx) (B:Heap) (T:List Addr) (v:ak):Prop
 |mk (a oe vs) (h1:v= .ref a) (h2:B.get? a=some oe) (h3:oe.data= .fields vs) (h4:6≤vs.size) (h5:vs[2]? =some .none) (h6:a∉T) (h7:a∉C.wr) (h8:a∉C.fs):Qr C B T v
def HB (C:Cx) (B:Heap) (T:List Addr):Prop:= ∀v,C.A.handled=some v→Qr C B T v
def XE (C:Cx) (cls:ak) (k:Bool) (e:dh) (st:St) (K:PV→St→Prop) (X:St→Prop):Prop:= ∀B T σ s,HB C B T→Mt C B T σ st s→bx C.M C.A (eval e C.env) (aO C B T VR σ K) (XR C B T σ cls k X) s
def XT (C:Cx) (cls:ak) (k:Bool) (e:dh) (st:St) (K:Bool→St→Prop) (X:St→Prop):Prop:= ∀B T σ s,HB C B T→Mt C B T σ st s→bx C.M C.A (isTrue e C.env (eval e C.env)) (aO C B T BR σ K) (XR C B T σ cls k X) s
def XS (C:Cx) (cls:ak) (k:Bool) (b:List iy) (st:St) (K:Fl→St→Prop) (X:St→Prop):Prop:= ∀B T σ s,HB C B T→Mt C B T σ st s→bx C.M C.A (execs b C.env) (aO C B T FR σ K) (XR C B T σ cls k X) s
def X1 (C:Cx) (cls:ak) (k:Bool) (b:iy) (st:St) (K:Fl→St→Prop) (X:St→Prop):Prop:= ∀B T σ s,HB C B T→Mt C B T σ st s→bx C.M C.A (exec b C.env) (aO C B T FR σ K) (XR C B T σ cls k X) s
def Rc (C:Cx) (cls:ak) (k:Bool) (o i:PV) (st:St) (K:PV→St→Prop) (X:St→Prop):Prop:= ∀B T σ s v u,HB C B T→Mt C B T σ st s→VR σ o v→VR σ i u→xB C (aO C B T VR σ K) (XR C B T σ cls k X) v u s
def Cx.Still (C:Cx):Prop:= ∀e s, ¬C.E e s
section
variable {B:Heap}{E:ak→az→Prop}{L:Addr}{T σ:List Addr}{pos:Pos}{s:az}
variable {C:Cx} {cls:ak} {kb:Bool} {st:St} {K:PV→St→Prop} {KB:Bool→St→Prop} {KF:Fl→St→Prop} {X:St→Prop}
theorem iO {e:iy} (hq:C.Still) (h:W1 C e st KF):X1 C cls kb e st KF X:=fun B T σ s hb x=>bc (h _ _ _ _ x) (fun _ _ r=>r) fun e s' he=>(hq e s' he).elim
theorem xY {value slice:dh} (hq:C.Still) (h:WE C value st fun o st1=>WE C slice st1 fun i st2=>Rc C cls kb o i st2 K X)
  (hs: ∀o i,subscripted slice false o i=operate [o,i] (getItem o i):=by intro _ _;rfl):XE C cls kb (.Subscript value slice pos) st K X:=fun B T σ s hb x=>by
 have qE: ∀{P:ak→az→Prop} e s',C.E e s'→P e s':=fun e s' he=>(hq e s' he).elim;refine Subscript_ (bc (h _ _ _ _ x) (fun v s1 hrz=>hrz.el fun τ o st1 h1 h2 h3=>?_) qE);refine bc (h3 _ _ _ _ h2) (fun u s2 hrz=>hrz.el fun τ' i st2 k1 k2 k3=>?_) qE;refine nn fun gg=>?_;obtain ⟨T',id,hT,hl,hg⟩:=k3 _ _ _ _ _ _ hb k2 h1.mono k1;refine gg ?_;exact bc (tail_any hT hl hg (hs _ _)) (fun _ _ r=>r.up.up) fun _ _ e=>e.up.up
theorem Ln {l r:dh} {op:CmpOp} {pos:Pos} (hq:C.Still) (h:XE C cls kb l st (fun p st1=>WE C r st1 fun q st2=>P2 C (d0 op) p q st2 fun b st3=>PT C b st3 KB) X) (hm:behindInMarks op r=false:=by with_unfolding_all rfl):
  XT C cls kb (.Compare l [op] [r] pos) st KB X:=by
 walk_at "T C,cls,kb,st,KB,X,l,r,op,pos hq h hm";walk_at "I B,T,σ,s hb x";have qE: ∀{P:ak→az→Prop} e s',C.E e s'→P e s':=fun e s' he=>(hq e s' he).elim;refine wpAny_isTrue_Compare1 (go (h _ _ _ _ hb x) fun a s1 τ p st1 h1 h2 h3=>?_) hm;refine bc (h3 _ _ _ _ h2) (fun b s2 hrz=>hrz.el fun τ' q st2 k1 k2 k3=>?_) qE;refine bc (k3 _ _ _ _ a b k2 h1.mono k1) (fun c s3 hrz=>hrz.el fun τ'' r st3 l1 l2 l3=>?_) qE;exact bc (l3 _ _ _ _ c l2 l1) (fun _ _ r=>r.up.up.up) qE
theorem eC (h:KF .next st):XS C cls kb [] st KF X:=fun B T σ s hb x=>wpAny_execs_nil (aO.now (b:=Fl.next) rfl x h)
theorem bA {a:iy} {r:List iy} (h:X1 C cls kb a st (fun f st1=>match f with| .next=>XS C cls kb r st1 KF X|f=>KF f st1) X):XS C cls kb (a::r) st KF X:=by
 walk_at "T C,cls,kb,st,KF,X,a,r h";walk_at "I B,T,σ,s hb x";refine wpAny_execs_cons (go (h B T σ s hb x) fun f s1 τ p st1 h1 h2 h3=>?_);cases p with
 |next=>cases h1;exact bc (h3 _ _ _ _ hb h2) (fun _ _ r=>r.up) fun _ _ e=>e.up
 |brk=>cases h1;exact ⟨τ, .brk,st1,rfl,h2,h3⟩
 |cont=>cases h1;exact ⟨τ, .cont,st1,rfl,h2,h3⟩
 |ret p=>obtain ⟨v,rfl,h4⟩:=h1;exact ⟨τ, .ret p,st1,⟨v,rfl,h4⟩,h2,h3⟩
theorem zL {t:dh} {b o:List iy} (hq:C.Still) (h:WT C t st fun c st1=>if c=true then XS C cls kb b st1 KF X else XS C cls kb o st1 KF X):X1 C cls kb (.If t b o pos) st KF X:=fun B T σ s hb x=>by obtain qE: ∀{P:ak→az→Prop} e s',C.E e s'→P e s':=fun e s' he=>(hq e s' he).elim;refine wpAny_If (bc (h B T σ s x) (fun a s1 hrz=>hrz.el fun τ c st1 h1 h2 h3=>?_) qE);cases h1;split<;>rename_i hc<;>simp only [hc,if_true,if_false,bu] at h3<;>exact bc (h3 _ _ _ _ hb h2) (fun _ _ r=>r.up) fun _ _ e=>e.up
theorem mR {x:Str} {i:Nat} {p':Pos} {e:dh} (hq:C.Still) (h:XE C cls kb e st (fun p st1=>KF .next {st1 with v:=st1.v.set i (some p)}) X) (hx:C.vis.lookup x=some i) (hk:C.env.kindOf x=some .local)
  (hs:swapsWith e (some (.Name x p')) pos.line C.env=pure false:=by rfl):X1 C cls kb (.Assign [.Name x p'] e pos) st KF X:=fun B T σ s hb y=>by
 obtain qE: ∀{P:ak→az→Prop} e s',C.E e s'→P e s':=fun e s' he=>(hq e s' he).elim;refine wpAny_Assign_Name (go (h B T σ s hb y) fun a s1 τ p st1 h1 h2 h3=>?_) hs;exact bc (zE (KU:=fun _=>KF .next) h2 hx hk h1 h3) (fun _ s2 hrz=>hrz.el fun τ' _ st2 _ k2 k3=>by rw [aa] at k2;exact ⟨_, .next,st2,rfl,k2,k3⟩) qE
theorem xT {M:pd} {A A':jx} {outer:List Env} (hfr:C.A.frames=some (C.env::outer)) (hA:A.frames=C.A.frames) (hA':A'.frames=C.A.frames) (hf:C.env.frame=some L) {e:ak}
  (hE: ∀e s,XR C B T σ cls kb X e s→E e s) (h:XR C B T σ cls kb X e s):notedBy M A' C.env (cameBackBy M A C.env E) e s:=by
 obtain ⟨τ,st',a,t,rfl,h2,h3,h4⟩:=h;refine jQ h2 h3 hfr hA' hf fun h' x1 e1=>?_;show bx _ _ _ _ _ _;have e1':=e1;obtain ⟨oe,vs,he,hc,hd,hz,hcl,g⟩:=e1.at_;rcases g with ⟨q,_⟩|⟨tb,otb,tvs,g1,g2,g3,g4,g5,g6⟩
 ·cases q
 refine ag (jf he hd g1 ?_);rw [if_neg (by simp)];exact eH (s:={s with heap:=h'}) x1 e1' fun h'' x2 e2=>hE _ _ ⟨τ,st',a,true,rfl,x2,e2,h4⟩
def Cx.Head (C:Cx):Prop:= ∀fr,C.A.frames=some fr→ ∃outer,fr=C.env::outer
theorem Mt.head (x:Mt C B T σ st s) (h:C.Head): ∃L outer,C.A.frames=some (C.env::outer)∧C.env.frame=some L:=by refine fW (x.ok.frs) fun e0 r0 g1 g2 g3=>?_;obtain ⟨outer,e⟩:=h _ g1;obtain ⟨f,hf⟩:=(g3 e0 (.head _)).2;exact ⟨f,outer,by rw [g1,e],by rw [←g2];exact hf⟩
theorem eZ {C:Cx} {fd:FuncData} {f:Addr} {vis:List (Str×Nat)}:(C.fn fd L f vis E).Head:=by
 intro fr h;have h:C.A.frames.map (callEnvC fd L f:: ·)=some fr:=h;cases e:C.A.frames with
 |none=>rw [e] at h;cases h
 |some r=>rw [e] at h;exact ⟨r,(ba h).symm⟩
theorem Hb {v:ak} (h:C.Head):(C.hd v).Head:=h
theorem Co {st0:St} {t:dh} {b:List iy} {pos:Pos} (hH:C.Head) (I:Nat→St→Prop) (n:Nat) (h0:I n st0)
  (turn: ∀n st,I n st→XT C cls kb t st (fun c st1=>if c=true then XS C cls kb b st1 (fun f st2=>match f with| .next| .cont=>Mf n I st2| .brk=>KF .next st2| .ret p=>KF (.ret p) st2) X else KF .next st1) X):
  X1 C cls kb (.While t b [] pos) st0 KF X:=by
 walk_at "T C,cls,kb,KF,X,st0,t,b,pos hH I,n h0 turn";walk_at "I B,T,σ,s hb x";refine cH (x.head hH) fun L outer hfr hf=>?_;have own: ∀e s',XR C B T σ cls kb X e s'→notedBy C.M C.A C.env (fun e s'=>cameBackBy C.M C.A C.env (XR C B T σ cls kb X) e s') e s':=fun e s' he=>xT hfr rfl rfl hf (fun _ _ h=>h) he;refine wpAny_While (codeAny_whileLoop (fun n s=> ∃τ st,Mt C B T (σ++τ) st s∧I n st) ?_ n ⟨[],st0,by rwa [be],h0⟩);walk_at "I n,s hr135a";walk_at "E hr135a : τ,st y hI";refine bc (turn n st hI _ _ _ _ hb y) (fun c s1 hrz=>hrz.el fun τ1 c' st1 h1 h2 h3=>?_) fun e s' he=>own e s' he.up;cases h1;split<;>rename_i hc<;>simp only [hc,if_true,if_false,bu] at h3
 ·refine bc (h3 _ _ _ _ hb h2) (fun f s2 hrz=>hrz.el fun τ2 f' st2 k1 k2 k3=>?_) fun e s' he=>own e s' he.up.up
  rw [aa,aa] at k1 k2;cases f' with
  |next=>cases k1;obtain ⟨m,hm,k3⟩:=k3;exact ⟨m,hm,_,st2,k2,k3⟩
  |cont=>cases k1;obtain ⟨m,hm,k3⟩:=k3;exact ⟨m,hm,_,st2,k2,k3⟩
  |brk=>cases k1;exact ⟨_, .next,st2,rfl,k2,k3⟩
  |ret p=>obtain ⟨v,rfl,k4⟩:=k1;exact ⟨_, .ret p,st2,⟨v,rfl,k4⟩,k2,k3⟩
 ·rw [aa] at h2
  exact wpAny_execs_nil ⟨_, .next,st1,rfl,h2,h3⟩
end
end
section
open PySem.SeqAt
theorem qF:entryFor table "proto.unchain"=some Builtin.«proto.unchain»:=entryFor_of_tree (by kernel_rfl)
section
variable {prog:n0} {w:aw} {A:jx} {E:ak→az→Prop} {s:az}
inductive vD (h':Heap) (e:Addr) (cls:String) (c:ak):Prop
 |mk (ob t) (h1:h'.get? e=some ob) (h2:ob.cls= .type cls) (h3:ob.data= .fields #[t, .none,c, .none, .bool false, .none]):vD h' e cls c
structure yV (h h':Heap) (e:Addr) (cls:String) (c:ak):Prop where
 keeps: ∀b o,h.get? b=some o→h'.get? b=some o
 new:h.get? e=none
 there:vD h' e cls c
theorem gG {α:Type} {cls msg:String} {Q:α→az→Prop} (hp:PlainExc cls) {e1:Addr} {oe:Obj} {vs:Array ak} (hh:A.handled=some (.ref e1)) (he:s.heap.get? e1=some oe) (hd:oe.data= .fields vs) (h2:vs[2]? =some .none)
  (h: ∀h' tk e,yV s.heap h' e cls (.ref e1)→E (.ref e) {s with heap:=h',toks:=tk}):bx (model prog w) A (raiseErrorWords cls msg:Sem α) Q E s:=by
 delta raiseErrorWords;refine ag (wpAny_mkText (ag ?_));delta newExc newTuple;refine ag (wpAny_newObj_type ?_);refine ag (m:=firstArgMember _ _) (dy (a:=fj) (by simp only [firstArgMember,hp.first];rfl) ?_);rw [hp.own];refine wpAny_newObj_type ?_;delta raiseNew;refine ag (wpAny_handled ?_);rw [hh];dsimp only;generalize hob:({cls:= .type "tuple",data:= .seq [o6 (iw msg) s.toks].toArray}:Obj)=o1;generalize hob2:({cls:= .type cls,data:= .fields (#[fv s.heap.objs.size,fj,fj,fj,ak.bool false,fj]++#[])}:Obj)=o2;have ho2:o2.data= .fields #[fv s.heap.objs.size,fj,fj,fj,ak.bool false,fj]:=by rw [←hob2];rfl
 obtain hc2:o2.cls= .type cls:=by rw [←hob2]
 obtain ho2f:o2.isFreed=false:=gf ho2;generalize hn:(s.heap.push o1).objs.size=n;obtain hne:e1≠n:=by have:=dc he;rw [←hn,gh];exact ez (jy this)
 rw [if_pos (by simp [hne])];obtain he':((s.heap.push o1).push o2).get? e1=some oe:=cc _ (cc _ he);have hn2:((s.heap.push o1).push o2).get? n=some o2:=by rw [←hn];exact b9 _ ho2f
 refine ag (cj (wpAny_runValue (codeAny_builtin qF ?_)));delta Builtin.«proto.unchain»;dsimp only;refine ag (jf he' hd h2 ?_);rw [if_pos (by decide)];refine ag (av (av ?_));dsimp only;refine ag ?_;delta updateField;refine ag (nw hn2 ?_);rw [ho2];dsimp only;rw [if_pos (by show 2<6;decide)];refine wpAny_update hn2 (wpAny_throw ?_);have hd₃:=jr ho2 (·.setIfInBounds 2 (fv e1));refine h _ _ _ ⟨fun b o hb=>?_,?_,_, .ref s.heap.objs.size,fu _ hn2 (gf hd₃),by rw [Obj.cls_mapFields];exact hc2,by rw [hd₃];rfl⟩
 ·have:n≠b:=fun q=>by
   have:=dc hb;rw [←q, ←hn,gh] at this;exact ci _ (lb (ch _) this)
  rw [iu _ _ this];exact cc _ (cc _ hb)
 ·rw [←hn];exact sm (by rw [gh];exact jn _)
theorem tQ {l:Addr} {items:Array ak} {k:Int} {t:Tok} {Q:ak→az→Prop} {e1:Addr} {oe:Obj} {vs:Array ak} (hh:A.handled=some (.ref e1)) (he:s.heap.get? e1=some oe) (hde:oe.data= .fields vs) (h2:vs[2]? =some .none) (hl:s.heap.IsList l items)
  (h0:0≤k) (hout:(items.size:Int)≤k) (hhi:k<2^63)
  (hE: ∀h' tk e,yV s.heap h' e "IndexError" (.ref e1)→E (.ref e) {s with heap:=h',toks:=tk}):
  bx (model prog w) A (getItem (.ref l) (.int k t)) Q E s:=by
 walk_at "T prog,w,A,E,s,l,items,k,t,Q,e1,oe,vs hh he hde h2 hl h0 hout hhi hE";refine nn fun gg=>?_;obtain ⟨o,ho,hc,ne,hd⟩:=id hl;refine gg ?_;delta getItem
 try with_reducible refine cj ?_
 first|refine ag (av ?_)|skip
 refine ag (wpAny_sequenceKey hl.typeIs (by decide) ?_);refine ag (wpAny_callSpecial?_slot (name:=iw "__getitem__") hl.typeIs slot_list_getitem
  (wpAny_call_entry slot_list_getitem hl.typeIs entry_list_getitem ?_ (args_list_getitem _ _)))
 show bx _ _ (Builtin.List.listSubscript? (.int k t)>>=_) _ _ s;refine ag (wpAny_listSubscript_int (fitsIndex_both (by lia) hhi) ?_);clear hhi;cases k with
 |ofNat j=>
  obtain hx:items[j]? =none:=Array.getElem?_eq_none (by have:(items.size:Int)≤(j:Int):=hout;exact jd.mp (by assumption));show bx _ _ ((seqItemAt l j>>=fun r=>pure (r.map (j, ·)))>>=_) _ _ s;refine ag (ag (wpAny_seqItemAt ho hd (av ?_)));rw [hx];have hh':A.in1.handled=some (.ref e1):=hh
  first
   |exact ag (wpAny_rule (gG plainExc_IndexError hh' he hde h2 hE))
   |exact ag (wpAny_rule (ag (gG plainExc_IndexError hh' he hde h2 hE)))
   |exact ag (ag (wpAny_rule (gG plainExc_IndexError hh' he hde h2 hE)))
   |exact wpAny_rule (gG plainExc_IndexError hh' he hde h2 hE)
 |negSucc j=>exact absurd h0 (by have:=Int.negSucc_lt_zero j;simp at*)
end
section
variable {C:Cx} {st:St} {K:PV→St→Prop} {KF:Fl→St→Prop} {X:St→Prop} {kb:Bool}
theorem Mt.looseNone {B:Heap} {T σ:List Addr} {s:az} (x:Mt C B T σ st s) {a:Addr} (ha:s.heap.get? a=none):eD C B σ a:=by
 walk_at "T C,st,B,T,σ,s x a, ha";refine ⟨fun hm=>?_,fun hm=>?_,fun hm=>?_,?_⟩
 ·obtain ⟨i,hi,e⟩:=gw hm
  obtain ⟨o,ho,_⟩:=x.hr.at_ i a (st.h[i]'(x.hr.len▸hi)) (by rw [ae hi,e]) (ae _);rw [ha] at ho;cases ho
 ·obtain ⟨o,e⟩:=x.pal a hm;rw [ha] at e;cases e
 ·obtain ⟨o,e,_⟩:=x.fr.al a hm;rw [ha] at e;cases e
 ·cases e:B.get? a with
  |none=>rfl
  |some o=>
   have:=x.keep a o e (fun hm=>?_) (fun hw=>?_) (fun hf=>?_)
   ·rw [ha] at this;cases this
   ·obtain hm:=x.pre.subset hm
    obtain ⟨i,hi,e⟩:=gw hm;obtain ⟨o,ho,_⟩:=x.hr.at_ i a (st.h[i]'(x.hr.len▸hi)) (by rw [ae hi,e]) (ae _);rw [ha] at ho;cases ho
   ·obtain ⟨o,e⟩:=x.pal a (bZ hw);rw [ha] at e;cases e
   ·obtain ⟨o,e,_⟩:=x.fr.al a hf;rw [ha] at e;cases e
theorem tP {i:Nat} {xs:List PV} {k:Nat} (hc:C.A.handled=none∨kb=false) (hl:st.h[i]? =some (.list xs)) (hk:(k:Int)<2^63) (h1: ∀p,xs[k]? =some p→K p st) (h2:xs.length≤k→X st):Rc C (.type "IndexError") kb (.ref i) (.int k) st K X:=fun B T σ s v u hb x ⟨a,ha,e⟩ ⟨t,e'⟩=>by
 subst e e';refine cH (x.list ha hl) fun vs n eo r=>?_;have hL:=aN eo;refine ⟨"list",_,hL.typeIs,slot_list_getitem.lookup,?_⟩;by_cases hkl:k<xs.length
 ·refine aE (r.get (ae hkl)) fun w hw hr=>?_
  exact wpAny_getItem_list hL (by exact bi _) hk (by simpa using hw) (aO.now hr x (h1 _ (ae hkl)))
 ·have hout:(vs.toArray.size:Int)≤(k:Int):=by rw [cb,r.length];simp_all
  cases hh:C.A.handled with
  |none=>refine wpAny_getItem_list_out hh hL (.inr hout) (by simp) hk fun h' tk e hz=>?_;obtain ⟨n1,n2,ob,t',n3,n4,n5⟩:=hz;refine ⟨[],st,e,false,rfl,by rw [be];exact x.grow tk n1,?_,h2 (by exact fe.mp (by assumption))⟩;rw [be];exact ⟨x.looseNone n2,ob,_,n3,n4,n5,by simp,fun _=>rfl, .inl ⟨rfl,rfl⟩⟩
  |some v=>refine nn fun gg=>?_;obtain ⟨e1,oe,vs1,rfl,b1,b2,b3,b4,b5,b6,b7⟩:=hb v hh;refine gg ?_;have he:=x.keep e1 oe b1 b5 b6 b7;refine tQ hh he b2 b4 hL (by exact bi _) hout hk fun h' tk e hz=>?_;obtain ⟨n1,n2,ob,t',n3,n4,n5⟩:=hz;refine ⟨[],st,e,false,rfl,by rw [be];exact x.grow tk n1,?_,h2 (by exact fe.mp (by assumption))⟩;rw [be];have hkb:kb=false:=hc.resolve_left (by rw [hh];simp);exact ⟨x.looseNone n2,ob,_,n3,n4,n5,by simp,(fun q=>by rw [hkb] at q;cases q), .inl ⟨rfl,rfl⟩⟩
end
end
section
open PySem.SeqAt
section
variable {C:Cx} {cls:ak} {kb:Bool} {st:St} {K:PV→St→Prop} {KF:Fl→St→Prop} {X:St→Prop}
theorem cM.weak {B:Heap} {σ:List Addr} {h:Heap} {a:Addr} {t k:Bool} (x:cM C B σ h cls a t k):cM C B σ h cls a t false:=by obtain ⟨oe,vs,he,hc,hd,hz,h2,h3⟩:=x.at_;exact ⟨x.lo,oe,vs,he,hc,hd,hz,(fun q=>by cases q),h3⟩
theorem HB.hd {B:Heap} {T σ:List Addr} {s:az} {a:Addr} {t:Bool} (x:Mt C B T σ st s) (h:cM C B σ s.heap cls a t true):HB (C.hd (.ref a)) s.heap σ:=by
 intro v hv;obtain ⟨oe,vs,he,hc,hd,hz,h2,h3⟩:=h.at_;obtain e:v= .ref a:=by obtain hv:(some (fv a)).or C.A.handled=some v:=hv;exact (ba hv).symm
 exact ⟨a,oe,vs,e,he,hd,hz,h2 rfl,h.lo.nσ,fun hw=>h.lo.np (bZ hw),h.lo.nf⟩
theorem Lo {body fs:List iy} {f₀:iy} {pos:Pos} (hh:C.A.handled=none) (hH:C.Head)
  (h:XS C cls true body st (fun fl st1=>fl= .next∧XS C cls false (f₀::fs) st1 (fun g st2=>g= .next∧KF .next st2) X) (fun st1=> ∀v,XS (C.hd v) cls false (f₀::fs) st1 (fun g st2=>g= .next∧X st2) X)):
  X1 C cls false (.Try body [] [] (f₀::fs) pos) st KF X:=by
 walk_at "T C,cls,st,KF,X,body,fs,f₀,pos hh hH h";walk_at "I B,T,σ,s hb x";refine cH (x.head hH) fun L outer hfr hf=>?_;refine wpAny_Try_finally (bc (h B T σ s hb x) (fun f s1 hrz=>hrz.el2 fun τ fl st1 h1 h2 hn h3=>?_) (fun e s1 he=>?_))
 ·subst hn
  cases h1;refine wpAny_execs_nil ?_;refine bc (h3 _ _ _ _ hb h2) (fun g s2 hrz=>hrz.el2 fun τ' g' st2 e m hg k=>?_) (fun e s' he=>xT hfr rfl rfl hf (fun _ _ h=>h) he.up);subst hg;cases e;rw [aa] at m;exact ⟨_, .next,st2,rfl,m,k⟩
 ·obtain ⟨τ,st1,a,t,rfl,m,ex,hX⟩:=he
  refine jQ m ex hfr rfl hf fun h' m1 e1=>?_;refine ⟨ref_ne_byPass a,?_⟩;refine jQ (s:={s1 with heap:=h'}) m1 e1 hfr rfl hf fun h'' m2 e2=>?_;refine eH (s:={s1 with heap:=h''}) m2 e2 fun h3 m3 e3=>?_;refine bc (hX (.ref a) h3 (σ++τ) (σ++τ) {s1 with heap:=h3} (HB.hd m3 e3) (m3.rebase.hd _)) (fun g s2 hrz=>hrz.el2 fun τ' g' st2 e m4 hg hXs=>?_) (fun e s2 he=>?_)
  ·subst hg
   cases e;obtain m4:=m4.unhd;have e4:=cM.stay m3 m4 e3;have m5:=m3.trans m4;rw [aa] at e4 m5;show bx _ _ (PySem.passOn "try.finally" (.ref a) C.env) _ _ s2;obtain ⟨oe,vs,he,hc,hd,hz,h2,g⟩:=id e4.at_;rcases g with ⟨q,_⟩|⟨tb,otb,tvs,g1,g2,g3,g4,g5,g6⟩
   ·cases q
   delta PySem.passOn;refine ag (jf he hd g1 ?_);rw [if_neg (by simp)];refine ag (eH m5 e4 fun h5 m6 e6=>?_);exact wpAny_throw ⟨_,st2,a,true,rfl,m6,e6.weak,hXs⟩
  ·obtain ⟨τ',st2,b,t',rfl,m4,e4,hXs⟩:=he
   obtain m4:=m4.unhd;have e5:=cM.out m3 (dj _ _) e4.unhd;have m5:=m3.trans m4;rw [aa] at e5 m5;exact xT (A:=C.A) (A':=C.A.mark (some (.ref a))) (kb:=false) hfr rfl rfl hf (fun _ _ h=>h) ⟨_,st2,b,t',rfl,m5,e5,hXs⟩
theorem Cw {body suite:List iy} {b₀:iy} {t:dh} {hpos pos:Pos} {Xn Tn:String} (hs:C.Still) (hh:C.A.handled=none) (hH:C.Head)
  (hexc:isSubtype (.type Tn) (.type "BaseException")=pure true) (hnt:isSubtype (.type ((pe Tn).elim "type" fun x=>x.metatype)) (.type "tuple")=pure false) (hsub:isSubtype (.type Xn) (.type Tn)=pure true)
  (h:XS C (.type Xn) false body st KF X) (ht: ∀v st1,WE (C.hd v) t st1 fun p st2=>p= .glob (.type Tn)∧st2=st1) (hx: ∀v st1,X st1→WS (C.hd v) (b₀::suite) st1 KF):
  W1 C (.Try body [.ExceptHandler (some t) none (b₀::suite) hpos] [] [] pos) st KF:=by
 walk_at "T C,st,KF,X,body,suite,b₀,t,hpos,pos,Xn,Tn hs hh hH hexc hnt hsub h ht hx";walk_at "I B,T,σ,s x";refine cH (x.head hH) fun L outer hfr hf=>?_;obtain hb:HB C B T:=fun v hv=>by rw [hh] at hv;cases hv
 refine wpAny_Try_except (bc (h B T σ s hb x) (fun f s1 hrz=>hrz.el fun τ fl st1 h1 h2 h3=>?_) (fun e s1 he=>?_))
 ·cases fl with
  |next=>cases h1;exact wpAny_execs_nil ⟨τ, .next,st1,rfl,h2,h3⟩
  |brk=>cases h1;exact ⟨τ, .brk,st1,rfl,h2,h3⟩
  |cont=>cases h1;exact ⟨τ, .cont,st1,rfl,h2,h3⟩
  |ret p=>obtain ⟨v,rfl,h4⟩:=h1;exact ⟨τ, .ret p,st1,⟨v,rfl,h4⟩,h2,h3⟩
 ·obtain ⟨τ,st1,a,t',rfl,m,ex,hX⟩:=he
  refine jQ m ex hfr rfl hf fun h' m1 e1=>?_;refine eH (s:={s1 with heap:=h'}) m1 e1 fun h2 m2 e2=>?_;have nE: ∀{P:ak→az→Prop} e s',(C.hd (.ref a)).E e s'→P e s':=fun e s' he=>(hs e s' he).elim;refine wpAny_handleBy_builtin (X:=Xn) hexc hnt hsub (bc (ht (.ref a) st1 h2 (σ++τ) (σ++τ) {s1 with heap:=h2} (m2.rebase.hd _)) (fun c s3 hrz=>hrz.el2 fun τ3 p st3 r1 m3 rp rs=>?_) nE);subst rp rs;cases r1;have m3:=m3.unhd;have e3:=cM.stay m2 m3 e2;obtain m4:=m2.trans m3;obtain ⟨oe,vs,he,hc,_⟩:=id e3.at_;refine ⟨rfl,⟨oe,he,hc⟩,?_⟩;rw [if_pos rfl];refine eH m4 e3 fun h5 m5 e5=>?_;refine bc (hx (.ref a) st3 hX h5 (σ++τ++τ3) (σ++τ++τ3) {s3 with heap:=h5} (m5.rebase.hd _)) (fun f s6 hrz=>hrz.el fun τ6 fl st6 q1 q2 q3=>?_) nE;have q2:=m5.trans q2.unhd;rw [aa,aa] at q2 q1;exact ⟨_,fl,st6,q1,q2,q3⟩
end
end
section
open PySem.SeqAt
section
variable {p:PV}
variable {C:Cx} {st:St} {K:PV→St→Prop} {KF:Fl→St→Prop}
def Jm (C:Cx):List dh→PV→St→(St→Prop)→Prop
 |[],_,st,K=>K st
 |t::r,p,st,K=>PA C t p st fun st1=>Jm C r p st1 K
theorem pas_nil {K:St→Prop} (h:K st):Jm C [] p st K:=h
theorem pas_cons {t:dh} {r:List dh} {K:St→Prop} (h:PA C t p st fun st1=>Jm C r p st1 K):Jm C (t::r) p st K:=h
theorem aL {fd:FuncData} {L f:Addr} {vis:List (Str×Nat)}:(C.fn fd L f vis fun _ _=>False).Still:=fun _ _ e=>e
theorem uX {v:ak} (h:C.Still):(C.hd v).Still:=h
theorem Jm.run {B:Heap} {T:List Addr}: ∀{ts:List dh} {p:PV} {st:St} {K:St→Prop} {σ:List Addr} {s:az} {v:ak},Jm C ts p st K→Mt C B T σ st s→VR σ p v→bx C.M C.A (assignAll v (ts.map fun t=>assign t C.env)) (aO C B T (fun _ (_:Unit) (_:Unit)=>True) σ fun _=>K) C.E s
 |[],p,st,K,σ,s,v,h,x,hv=>by show bx C.M C.A (pure ()) _ _ _;exact av (aO.now (b:=()) trivial x h)
 |[t],p,st,K,σ,s,v,h,x,hv=>by show bx C.M C.A (assign t C.env v) _ _ _;exact h B T σ s v x hv
 |t::t2::r,p,st,K,σ,s,v,h,x,hv=>by show bx C.M C.A (do holding [v] (assign t C.env v);assignAll v ((t2::r).map fun t=>assign t C.env)) _ _ _;refine ag (cj (go (h B T σ s v x hv) fun _ s1 τ _ st1 _ h2 h3=>?_));exact gH (Jm.run h3 h2 hv.mono)
theorem s_assignG {ts:List dh} {e:dh} {pos:Pos} (h:WE C e st fun p st1=>Jm C ts p st1 fun st2=>KF .next st2) (hs:swapsWithSole ts e pos.line C.env=pure false:=by rfl) (hn:swappedStores ts e C.env=pure none:=by rfl)
  (ha:(assignEach ts C.env).map (·.2)=ts.map fun t=>assign t C.env:=by rfl):W1 C (.Assign ts e pos) st KF:=by
 walk_at "T C,st,KF,ts,e,pos h hs hn ha";walk_at "I B,T,σ,s x";rw [arm_exec_Assign];refine ag (fk (ag (dy hs ?_)));rw [if_neg (by decide)];refine ag (go (h B T σ s x) fun v s1 τ p st1 h1 h2 h3=>?_);refine ag (dy hn ?_);rw [ha];delta assignStores;refine ag (go (h3.run h2 h1) fun _ s2 τ' _ st2 _ k2 k3=>av ?_);rw [aa] at k2;exact ⟨_, .next,st2,rfl,k2,k3⟩
end
end
section
variable {es:List i6}{ns:List Str}{o:Obj}{vs:List ak}{x:Str}
inductive SD:List Str→List i6→List ak→Prop
 |nil:SD [] [] []
 |cons {n:Str} {t:Tok} {h:Int} {v:ak} {ns:List Str} {es:List i6} {vs:List ak}:SD ns es vs→SD (n::ns) (⟨h, .str n t,v⟩::es) (v::vs)
inductive sR (ns:List Str) (vs:List ak) (o:Obj):Prop
 |mk (es:List i6) (ep:Nat) (e:o={cls:= .type "dict",data:= .dict es.toArray ep}) (h:SD ns es vs):sR ns vs o
theorem SD.length (h:SD ns es vs):es.length=ns.length∧vs.length=ns.length:=by
 induction h with
 |nil=>exact ⟨rfl,rfl⟩
 |cons _ ih=>simp [ih.1,ih.2]
theorem SD.noRef (h:SD ns es vs):es.any (·.refKey)=false:=by
 induction h with
 |nil=>rfl
 |cons _ ih=>rw [on,ih];rfl
theorem SD.look (h:SD ns es vs) (x:Str):(es.find? (·.key.isStr x)).map (·.val)=(ns.zip vs).lookup x:=by
 induction h with
 |nil=>rfl
 |@cons n t h v ns es vs _ ih=>
  rw [oq,c7,List.find?_cons];show Option.map _ (match (n==x) with|true=>_|false=>_)=_;cases e:x==n with
  |true=>rw [show (n==x)=true by rw [eq_of_beq e];simp];rfl
  |false=>
   obtain this:(n==x)=false:=by
    cases e':n==x with
    |false=>rfl
    |true=>rw [eq_of_beq e'] at e;simp at e
   rw [this];exact ih
theorem SD.idx (h:SD ns es vs) (x:Str):es.findIdx? (·.key.isStr x)=ns.findIdx? (· ==x):=by
 induction h with
 |nil=>rfl
 |@cons n t h v ns es vs _ ih=>rw [ox,ox,ih];rfl
theorem SD.modify (h:SD ns es vs) (v:ak): ∀i,SD ns (es.modify i fun e=>{e with val:=v}) (vs.set i v):=by
 induction h with
 |nil=>intro i;simp;exact .nil
 |cons a ih=>intro i;cases i with
  |zero=>exact .cons a
  |succ i=>exact .cons (ih i)
theorem SD.push (h:SD ns es vs) (n:Str) (k:Int) (t:Tok) (v:ak):SD (ns++[n]) (es++[⟨k, .str n t,v⟩]) (vs++[v]):=by
 induction h with
 |nil=>exact .cons .nil
 |cons a ih=>exact .cons ih
theorem sR.look (h:sR ns vs o) (x:Str):lookIn x o=some ((ns.zip vs).lookup x):=by
 obtain ⟨es,ep,qz2,d⟩:=h;subst qz2;delta lookIn;dsimp only;rw [←d.look x];cases e:es.find? (·.key.isStr x) with
 |some w=>rfl
 |none=>dsimp only;rw [d.noRef];rfl
theorem uC (h:sR ns vs o) {i:Nat} (hi:ns.findIdx? (· ==x)=some i) (k:Int) (t:Tok) (v:ak):sR ns (vs.set i v) (oa x k (.str x t) v o):=by
 obtain ⟨es,ep,qz2,d⟩:=h;subst qz2;rw [Obj.putName_eq];delta Obj.putNameByArray;dsimp only;obtain this:es.toArray.findIdx? (·.key.isStr x)=some i:=by rw [ry,d.idx x,hi]
 rw [this];dsimp only;exact ⟨es.modify i fun e=>{e with val:=v},ep,by rw [List.modify_toArray],d.modify v i⟩
theorem uR (h:sR ns vs o) (hi:ns.findIdx? (· ==x)=none) (k:Int) (t:Tok) (v:ak):sR (ns++[x]) (vs++[v]) (oa x k (.str x t) v o):=by
 obtain ⟨es,ep,qz2,d⟩:=h;subst qz2;rw [Obj.putName_eq];delta Obj.putNameByArray;dsimp only;obtain this:es.toArray.findIdx? (·.key.isStr x)=none:=by rw [ry,d.idx x,hi]
 rw [this];dsimp only;exact ⟨es++[⟨k, .str x t,v⟩],ep+1,by simp,d.push x k t v⟩
def mB (us:List ak):Array (Option ak):=(us.map some).toArray
inductive iR (cl:Addr) (vs:List ak) (o:Obj):Prop
 |mk (dx:Addr) (us:List ak) (e:vs= .ref dx::us) (h:o={cls:= .ref cl,dict:=some dx,data:= .plain,slots:=mB us}):iR cl vs o
structure rT (K:Frag) (cl:Addr):Prop where
 hga:findIn K (.ref cl) "__getattribute__"=some (some (.builtin "object.__getattribute__"))
 hk:findIn K (.ref cl) "__getattr__"=some none
 hs:findIn K (.ref cl) "__setattr__"=some (some (.builtin "object.__setattr__"))
 hp:plainOver K cl=true
 hm:makesIn K cl=true
def GA (C:Cx) (name:Str) (p:PV) (st:St) (K:PV→St→Prop):Prop:= ∀B T σ s v ex,Mt C B T σ st s→VR σ p v→bx C.M C.A (getAttr v name ex) (aO C B T VR σ K) C.E s
def SA (C:Cx) (name:Str) (p q:PV) (st:St) (K:St→Prop):Prop:= ∀B T σ s v u,Mt C B T σ st s→VR σ p v→VR σ q u→bx C.M C.A (setAttr v name u) (aO C B T (fun _ (_:Unit) (_:Unit)=>True) σ fun _=>K) C.E s
section
variable {KS:St→Prop}{R:List ak→Obj→Prop}{cl:Addr}{d i j:Nat}{name:Str}{ns:List Str}{o:dh}{pos:Pos}{q:PV}{us xs:List PV}{v:ak}{vs:List ak}{σ:List Addr}
variable {C:Cx} {st:St} {K:PV→St→Prop} {KF:Fl→St→Prop}
theorem e_attr (h:WE C o st fun p st1=>GA C name p st1 K) (hbase:ij o name C.env (eval o C.env)=eval o C.env:=by kernel_rfl):WE C (.Attribute o name pos) st K:=fun B T σ s x=>by rw [arm_eval_Attribute,hbase];refine ag (go (h _ _ _ _ x) fun v s1 τ p st1 h1 h2 h3=>?_);refine ag (fk (ag (cj (bc (h3 _ _ _ _ _ true h2 h1) (fun r s2 hr=>?_) fun _ _ e=>e))));exact ag (wpAny_letTemporaryGo (av hr.up))
theorem pa_attr (h:WE C o st fun p st1=>SA C name p q st1 KS):PA C (.Attribute o name pos) q st KS:=fun B T σ s v x hv=>by rw [arm_assign_Attribute];refine ag (cj (go (h _ _ _ _ x) fun u s1 τ p st1 h1 h2 h3=>?_));refine ag (fk (ag (cj (bc (h3 _ _ _ _ _ _ h2 h1 hv.mono) (fun r s2 hr=>?_) fun _ _ e=>e))));exact wpAny_release hr.up
theorem s_augA {o value:dh} {name:Str} {tpos pos:Pos} {op:Operator} (h:WE C o st fun p st1=>GA C name p st1 fun q st2=>WE C value st2 fun r st3=>P2 C (inplaceOp op) q r st3 fun n st4=>SA C name p n st4 (KF .next)):
  W1 C (.AugAssign (.Attribute o name tpos) op value pos) st KF:=by
 walk_at "T C,st,KF,o,value,name,tpos,pos,op h";walk_at "I B,T,σ,s x";refine wpAny_AugAssign_AttributeAny (go (h _ _ _ _ x) fun ov s1 τ p st1 h1 h2 h3=>?_);refine go (h3 _ _ _ _ _ true h2 h1) fun old s2 τ2 q st2 k1 k2 k3=>?_;refine go (k3 _ _ _ _ k2) fun v s3 τ3 r st3 l1 l2 l3=>?_;refine go (l3 _ _ _ _ _ _ l2 k1.mono l1) fun new s4 τ4 n st4 m1 m2 m3=>?_;refine go (m3 _ _ _ _ _ _ m2 h1.mono.mono.mono m1) fun _ s5 τ5 _ st5 _ n2 n3=>?_;simp only [aa] at n2;exact ⟨_, .next,st5,rfl,n2,n3⟩
theorem Mt.raw {B:Heap} {T:List Addr} {s:az} (x:Mt C B T σ st s) {a:Addr} (ha:σ[i]? =some a) (hp:st.h[i]? =some (.raw R xs)): ∃o vs,s.heap.get? a=some o∧R vs o∧cF σ xs vs:=by obtain ⟨o,e,vs,r1,r2⟩:=x.hr.obj ha hp;exact ⟨o,vs,e,r1,r2⟩
theorem yU (h:VR σ q v) (n: ∀u,q≠ .glob u):handedIn v=true:=by
 cases q with
 |none=>cases h;rfl
 |bool=>cases h;rfl
 |int=>obtain ⟨t,rfl⟩:=h;rfl
 |str=>obtain ⟨t,rfl⟩:=h;rfl
 |ref=>obtain ⟨a,_,rfl⟩:=h;rfl
 |glob u=>exact absurd rfl (n u)
theorem qC (r:cF σ xs vs): ∀{ns:List Str} {x:Str} {q:PV},(ns.zip xs).lookup x=some q→ ∃v,(ns.zip vs).lookup x=some v∧VR σ q v:=by
 induction r with
 |nil=>intro ns x q h;simp at h
 |cons a _ ih=>
  intro ns x q h;cases ns with
  |nil=>simp at h
  |cons n ns=>
   rw [oq,c7] at h ⊢;cases e:x==n with
   |true=>rw [e] at h;cases h;exact ⟨_,rfl,a⟩
   |false=>rw [e] at h;exact ih h
theorem fD: ∀{ns:List Str} {vs:List ak} {x:Str},ns.findIdx? (· ==x)=none→(ns.zip vs).lookup x=none
 |[],_,_,_=>by simp
 |n::ns,[],x,_=>by rfl
 |n::ns,v::vs,x,h=>by
  rw [ox] at h;rw [oq,c7];cases e:x==n with
  |true=>rw [show (n==x)=true by rw [eq_of_beq e];simp] at h;cases h
  |false=>
   have e':(n==x)=false:=by
    cases e':n==x with
    |false=>rfl
    |true=>rw [eq_of_beq e'] at e;simp at e
   rw [e'] at h;dsimp only at h ⊢;refine fD ?_;cases q:ns.findIdx? (· ==x) with
   |none=>rfl
   |some j=>rw [q] at h;cases h
theorem Mt.inst {B:Heap} {T σ:List Addr} {s:az} (x:Mt C B T σ st s) {i:Nat} {a cl:Addr} {d:Nat} {us:List PV} {R:List ak→Obj→Prop} {xs:List PV} (ha:σ[i]? =some a) (hi:st.h[i]? =some (.raw (iR cl) (.ref d::us))) (hd:st.h[d]? =some (.raw R xs)):
  ∃dx od vs ws,σ[d]? =some dx∧InstAt s.heap a {cls:= .ref cl,dict:=some dx,data:= .plain,slots:=mB ws} cl (some od)∧s.heap.get? dx=some od∧R vs od∧cF σ xs vs∧cF σ us ws:=by
 walk_at "T C,st,B,T,σ,s x i,a,cl,d,us,R,xs ha hi hd";refine nn fun gg=>?_;obtain ⟨o,vs,e,⟨dx,ws,rfl,rfl⟩,r⟩:=x.raw ha hi;refine gg ?_;cases r with|cons r1 r2=>
  refine aE (r1) fun b hb e'=>?_;cases e';refine fW (x.raw hb hd) fun od vs' e2 R' r'=>?_;exact ⟨dx,od,vs',ws,hb,⟨e,rfl,rfl,e2⟩,e2,R',r',r2⟩
theorem Jc (S:rT C.K cl) (hn:findIn C.K (.ref cl) name=some none) (hd:(clsIn C.K cl).any (·.hasDict)=true)
  (hi:st.h[i]? =some (.raw (iR cl) (.ref d::us))) (hx:st.h[d]? =some (.raw (sR ns) xs)) (hq:(ns.zip xs).lookup name=some q) (nq: ∀u,q≠ .glob u) (h:K q st):GA C name (.ref i) st K:=fun B T σ s v ex x hv=>by
 refine aE (hv) fun a ha qz2=>?_;subst qz2;refine zY (x.inst ha hi hx) fun dx od vs ws hdx I e2 R r r2=>?_;refine aE (qC r hq) fun v hv hr=>?_;refine aE (any_some hd) fun cd hc hcd=>?_;refine get_value x.topNow.KX I S.hga ?_ (yU hr nq) (aO.now hr (x.tok _) h);delta findObj;rw [hc,ev,hn,ev];dsimp only;rw [ev];rw [ev];dsimp only;delta W.ownOf;rw [hcd,if_pos rfl];dsimp only;rw [R.look name,hv];rfl
theorem Hp {p:Addr} (S:rT C.K cl) (hn:findIn C.K (.ref cl) name=some (some (.ref p)))
  (hg:specialIn C.K (.ref p) "__get__"=some (some (.builtin "member_descriptor.__get__"))) (ht:takesIn C.K (.ref p)=some true) (hs:slotIn C.K p cl=some j) (hc:(clsIn C.K cl).isSome=true)
  (hi:st.h[i]? =some (.raw (iR cl) (.ref d::us))) (hx:st.h[d]? =some (.raw R xs)) (hq:us[j]? =some q) (nq: ∀u,q≠ .glob u) (h:K q st):GA C name (.ref i) st K:=fun B T σ s v ex x hv=>by
 refine aE (hv) fun a ha qz2=>?_;subst qz2;refine zY (x.inst ha hi hx) fun dx od vs ws hdx I e2 R r r2=>?_;refine aE (r2.get hq) fun v hv hr=>?_;obtain ⟨cd,hcd⟩:=gx.mp hc;refine get_bind x.topNow.KX I S.hga (g:= .builtin "member_descriptor.__get__") (a:= .ref p) ?_ S.hk ?_
 ·delta findObj
  rw [hcd,ev,hn,ev];dsimp only;rw [hg,ev];dsimp only;rw [ht];rfl
 ·refine wpAny_call (slot_get (s:={s with toks:=s.toks+1}) (v:=v) x.topNow.KX I hs ?_ ?_)
  ·show ((mB ws)[j]?).join=some v
   delta mB;simp [hv]
  ·show bx _ _ (handedOut v) _ _ _
   rw [handedOut_of (yU hr nq)];exact av (aO.now hr (x.tok _) h)
theorem yC {i d:Nat} {cl:Addr} {name:Str} {us:List PV} {ns ns':List Str} {xs xs':List PV} {q:PV} {KS:St→Prop} (S:rT C.K cl) (ht:takerIn C.K cl name=some none) (hh:(clsIn C.K cl).any (·.hasDict)=true)
  (hi:st.h[i]? =some (.raw (iR cl) (.ref d::us))) (hx:st.h[d]? =some (.raw (sR ns) xs)) (hz:ns.length≤100)
  (hput: ∀{σ:List Addr} {vs:List ak} {o:Obj} {v:ak},sR ns vs o→cF σ xs vs→VR σ q v→ ∀k t, ∃vs',sR ns' vs' (oa name k (.str name t) v o)∧cF σ xs' vs') (hz':ns'.length≤101)
  (h:KS {st with h:=st.h.set d (.raw (sR ns') xs')}):SA C name (.ref i) q st KS:=by
 walk_at "T C,st,i,d,cl,name,us,ns,ns',xs,xs',q,KS S ht hh hi hx hz hput hz' h";walk_at "I B,T,σ,s,v,u x hv hu";have ho203:=hv;walk_at "E ho203 : a, ha qz2";subst qz2;have ho206:=x.inst ha hi hx;walk_at "E ho206 : dx,od,vs,ws hdx I e2 R r r2";refine aE (any_some hh) fun cd hc hcd=>?_;refine set_plain x.topNow.KX I S.hs (osa_open x.topNow.KX I S.hp ht fun b=>?_);have L:=looks_clsIn (M:=C.M) x.topNow.KX hc;dsimp only;delta Builtin.ObjectAttr.storeInOwnDict;refine ag (av ?_);rw [if_neg (by simp)];refine ag (ag (wpAny_loadPart I.at_ (ag (L _ _ _ _ (fun _ _ e=>e) ?_))));rw [hcd];refine av (a:=some dx) ?_;dsimp only;delta Builtin.ObjectAttr.storeInDict;refine ag (av (ag ?_));delta nsSet strHash;refine ag (ag (wpAny_askSetting (av (ag (wpAny_mkText (ag (wpAny_loadPart e2 ?_)))))));have R':=R;obtain ⟨es,ep,e3,sd⟩:=R';have hl:=sd.length;rw [e3];dsimp only;have c:aRefKeyMayBeTheName name es.toArray=false:=by rw [aRefKeyMayBeTheName_at,List.any_toArray,List.any_toArray,sd.noRef,qh]
 rw [c,if_neg (by decide)];refine wpAny_updatePart e2 ?_;refine aE (hput R r hu (m9 C.w.params name) (s.toks+1)) fun vs' p1 p2=>?_;have p1':=p1;obtain ⟨es',ep',e4,sd'⟩:=p1';have nf:(oa name (m9 C.w.params name) (.str name (s.toks+1)) u od).isFreed=false:=by rw [e4];rfl
 have g:=fu (oa name (m9 C.w.params name) (.str name (s.toks+1)) u) e2 nf;refine ag (wpAny_lookBehind g ?_ (av ?_))
 ·rw [e4]
  exact pastItsLine_dict (by rw [cb,sd'.length.1,sizeLine_eq];exact aq (by assumption) (by decide))
 ·exact aO.now (b:=()) trivial (x.upd (p:= .raw (sR ns') xs') (s.toks+1+1) hdx (gq ..) ⟨_,g,vs',p1,p2⟩) h
theorem cF.set (r:cF σ xs vs) (h:VR σ q v): ∀i,cF σ (xs.set i q) (vs.set i v):=by
 induction r with
 |nil=>intro i;exact .nil
 |cons a r ih=>intro i;cases i with
  |zero=>exact .cons h r
  |succ i=>exact .cons a (ih i)
theorem Mm (S:rT C.K cl) (ht:takerIn C.K cl name=some none) (hh:(clsIn C.K cl).any (·.hasDict)=true)
  (hi:st.h[i]? =some (.raw (iR cl) (.ref d::us))) (hx:st.h[d]? =some (.raw (sR ns) xs)) (hz:ns.length≤100) (hj:ns.findIdx? (· ==name)=some j)
  (h:KS {st with h:=st.h.set d (.raw (sR ns) (xs.set j q))}):SA C name (.ref i) q st KS:=
 yC S ht hh hi hx hz (fun R r hv k t=>⟨_,uC R hj k t _,r.set hv _⟩) (by exact aq (by assumption) (ax _ _)) h
theorem Kr (S:rT C.K cl) (ht:takerIn C.K cl name=some none) (hh:(clsIn C.K cl).any (·.hasDict)=true)
  (hi:st.h[i]? =some (.raw (iR cl) (.ref d::us))) (hx:st.h[d]? =some (.raw (sR ns) xs)) (hz:ns.length≤100) (hj:ns.findIdx? (· ==name)=none)
  (h:KS {st with h:=st.h.set d (.raw (sR (ns++[name])) (xs++[q]))}):SA C name (.ref i) q st KS:=
 yC S ht hh hi hx hz (fun R r hv k t=>⟨_,uR R hj k t _,r.append (.cons hv .nil)⟩) (by simp;assumption) h
theorem xZ {i d j:Nat} {cl p:Addr} {name:Str} {us us':List PV} {R:List ak→Obj→Prop} {xs:List PV} {q:PV} {KS:St→Prop} (S:rT C.K cl) (ht:takerIn C.K cl name=some (some (.ref p))) (hT:typeIn C.K (.ref p)=some (.type "member_descriptor"))
  (hs:slotIn C.K p cl=some j) (hj:j<1000) (hi:st.h[i]? =some (.raw (iR cl) (.ref d::us))) (hx:st.h[d]? =some (.raw R xs))
  (hf: ∀{σ:List Addr} {ws:List ak} {v:ak},cF σ us ws→VR σ q v→ ∃ws',(mB ws++pr (j+1 - (mB ws).size) none).setIfInBounds j (some v)=mB ws'∧cF σ us' ws')
  (h:KS {st with h:=st.h.set i (.raw (iR cl) (.ref d::us'))}):SA C name (.ref i) q st KS:=by
 walk_at "T C,st,i,d,j,cl,p,name,us,us',R,xs,q,KS S ht hT hs hj hi hx hf h";walk_at "I B,T,σ,s,v,u x hv hu";have ho259:=hv;walk_at "E ho259 : a, ha qz2";subst qz2;have ho262:=x.inst ha hi hx;walk_at "E ho262 : dx,od,vs,ws hdx I e2 R r r2";have ho264:=hf r2 hu;walk_at "E ho264 : ws', f1 f2";have X:=x.topNow.KX;refine nn ?_;walk_at "I gg";have ho269:=slot_of X hs;walk_at "E ho269 : sn,tn,owner,behind,tb,dd,sl,cd ho hc hm hb rfl";refine gg ?_;have nf: ∀y:Array (Option ak),({cls:= .ref cl,dict:=some dx,data:= .plain,slots:=y}:Obj).isFreed=false:=fun _=>rfl;have nQ:=fun t=>aO.now (B:=B) (T:=T) (C:=C) (σ:=σ) (R:=fun _ (_:Unit) (_:Unit)=>True) (K:=fun _=>KS) (a:=()) (b:=()) trivial
  (x.upd (p:= .raw (iR cl) (.ref d::us')) t ha (gq s.heap a fun o=>{o with slots:=(o.slots++pr (cd.slotNames.length - 1 - behind.toNat+1 - o.slots.size) none).setIfInBounds (cd.slotNames.length - 1 - behind.toNat) (some u)})
   ⟨_,fu (fun o:Obj=>{o with slots:=(o.slots++pr (cd.slotNames.length - 1 - behind.toNat+1 - o.slots.size) none).setIfInBounds (cd.slotNames.length - 1 - behind.toNat) (some u)}) I.at_ rfl, .ref dx::ws',⟨dx,ws',rfl,by dsimp only;rw [f1]⟩, .cons ⟨dx,hdx,rfl⟩ f2⟩) h
 refine nn ?_;walk_at "I gg";obtain ⟨hh,g,dr,tk,os⟩:=s;refine gg ?_;refine set_plain X I S.hs (osa_descr sk X I S.hp ht hT ?_);have L0:=I.type (M:=C.M);have L1:=looks_mroIn (M:=C.M) X hm;have L2:Looks C.M hh (Builtin.Slots.slotNamesOf (.ref cl)) cd.slotNames:=(looks_clsIn X hc).andThen .now;have hx:=I.at_;dsimp only at ho hx L0 L1;have g0:=looks_field (M:=C.M) ho 0 (v:= .str sn tn) rfl;have g1:=looks_field (M:=C.M) ho 1 (v:=owner) rfl;have g3:=looks_field (M:=C.M) ho 3 (v:= .builtin "proto.slot#set") rfl;have g4:=looks_field (M:=C.M) ho 4 (v:= .int behind tb) rfl;have g5:Looks C.M hh (rf (.ref p)) [.ref p]:=((Looks.ld (part:=none) ho).andThen .now).andThen (Looks.of_pure (by kernel_rfl));refine codeAny_call_builtin sk.plain KF.entry_mset (sk.check _ _ _ _ _ _ _ _ ⟨_,ho,rfl⟩ (KF.args_mset _ _ _) ?_);delta Builtin.«member_descriptor.__set__» q9 q8 rh rc isInstance
 repeat lk
 refine ⟨Code.quiet_builtin _ (by decide+kernel),codeAny_builtin KF.entry_slotset ?_⟩;delta Builtin.«proto.slot#set» Builtin.Slots.target
 repeat lk
 rw [if_neg hb];refine av (ag ?_);delta setSlotAt;dsimp only;rw [if_neg (by rw [sizeLine_eq];lia)];exact wpAny_updatePart hx (av (nQ _))
end
end
section
variable {K:Frag}{x:Str}
def zV:iy→List iy
 | .ClassDef _ _ _ b _ _ _ _ _ _ _=>b
 |_=>[]
def aK (i j:Nat):iy:=((zV (aD i))[j]?).getD default
def Dp (K:Frag) (f:Addr) (i j:Nat) (dV:ak):Prop:=Cc K f (aP (aK i j)) (aX (aK i j)) (aU (aK i j)) dV
def gX (K:Frag) (x:Str) (f:Addr) (j:Nat):Prop:=findIn K (.ref 202) x=some (some (.ref f))∧typeIn K (.ref f)=some (.type "function")∧fy K (.ref f)=true∧Dp K f 29 j .none
def oQ (K:Frag) (x:Str) (p:Addr) (j:Nat):Prop:=findIn K (.ref 105) x=some (some (.ref p))∧specialIn K (.ref p) "__get__"=some (some (.builtin "member_descriptor.__get__"))∧takesIn K (.ref p)=some true∧
 typeIn K (.ref p)=some (.type "member_descriptor")∧slotIn K p 105=some j
structure KnC (K:Frag):Prop where
 s:rT K 202
 n:rT K 105
 hd:(clsIn K 202).any (·.hasDict)=true
 hc:(clsIn K 105).isSome=true
 ini_s:findIn K (.ref 202) "__init__"=some (some (.ref 138))∧typeIn K (.ref 138)=some (.type "function")∧Dp K 138 29 0 (.ref 131)
 ini_n:findIn K (.ref 105) "__init__"=some (some (.ref 101))∧typeIn K (.ref 101)=some (.type "function")∧Dp K 101 27 1 .none
 d131:rL K 131 fun _ _=>#[.none]
 attrs: ∀x∈(["_node2info","_ready_nodes","_npassedout","_nfinished"]:List Str),findIn K (.ref 202) x=some none
 m_info:gX K "_get_nodeinfo" 145 1
 m_add:gX K "add" 152 2
 m_prepare:gX K "prepare" 157 3
 m_ready:gX K "get_ready" 164 4
 m_active:gX K "is_active" 171 5
 m_done:gX K "done" 185 7
 m_cycle:gX K "_find_cycle" 192 8
 s_node:oQ K "node" 106 0
 s_npred:oQ K "npredecessors" 107 1
 s_succ:oQ K "successors" 108 2
theorem qR {cl:Addr} (h:findIn K (.ref cl) x=some none):takerIn K cl x=some none:=by delta takerIn;rw [h];rfl
theorem qZ {p:Addr} {j:Nat} (h:oQ K x p j):takerIn K 105 x=some (some (.ref p)):=by delta takerIn;rw [h.1,ev];dsimp only;rw [h.2.2.1];rfl
section
variable {B:Heap}{KS:St→Prop}{R:List ak→Obj→Prop}{T σ:List Addr}{apos pos:Pos}{cl f p:Addr}{d i j:Nat}{name:Str}{ns:List Str}{o:dh}{q:PV}{s:az}{us xs:List PV}{vs:List ak}
variable {C:Cx} {st:St} {K:PV→St→Prop} {KF:Fl→St→Prop} {n:Nat}
theorem gK (S:KnC C.K) (hm:name∈(["_node2info","_ready_nodes","_npassedout","_nfinished"]:List Str))
  (hi:st.h[i]? =some (.raw (iR 202) (.ref d::us))) (hx:st.h[d]? =some (.raw (sR ns) xs)) (hq:(ns.zip xs).lookup name=some q) (nq: ∀u,q≠ .glob u) (h:K q st):GA C name (.ref i) st K:=
 Jc S.s (S.attrs name hm) S.hd hi hx hq nq h
theorem Dh (S:KnC C.K) (hm:name∈(["_node2info","_ready_nodes","_npassedout","_nfinished"]:List Str))
  (hi:st.h[i]? =some (.raw (iR 202) (.ref d::us))) (hx:st.h[d]? =some (.raw (sR ns) xs)) (hz:ns.length≤100) (hj:ns.findIdx? (· ==name)=some j)
  (h:KS {st with h:=st.h.set d (.raw (sR ns) (xs.set j q))}):SA C name (.ref i) q st KS:=Mm S.s (qR (S.attrs name hm)) S.hd hi hx hz hj h
theorem yF (S:KnC C.K) (hm:name∈(["_node2info","_ready_nodes","_npassedout","_nfinished"]:List Str))
  (hi:st.h[i]? =some (.raw (iR 202) (.ref d::us))) (hx:st.h[d]? =some (.raw (sR ns) xs)) (hz:ns.length≤100) (hj:ns.findIdx? (· ==name)=none)
  (h:KS {st with h:=st.h.set d (.raw (sR (ns++[name])) (xs++[q]))}):SA C name (.ref i) q st KS:=Kr S.s (qR (S.attrs name hm)) S.hd hi hx hz hj h
theorem qJ (S:KnC C.K) (L:oQ C.K name p j)
  (hi:st.h[i]? =some (.raw (iR 105) (.ref d::us))) (hx:st.h[d]? =some (.raw R xs)) (hq:us[j]? =some q) (nq: ∀u,q≠ .glob u) (h:K q st):GA C name (.ref i) st K:=
 Hp S.n L.1 L.2.1 L.2.2.1 L.2.2.2.2 S.hc hi hx hq nq h
theorem uW (S:KnC C.K) (L:oQ C.K name p j) (hj:j<us.length) (hj':j<1000)
  (hi:st.h[i]? =some (.raw (iR 105) (.ref d::us))) (hx:st.h[d]? =some (.raw R xs)) (h:KS {st with h:=st.h.set i (.raw (iR 105) (.ref d::us.set j q))}):SA C name (.ref i) q st KS:=
 xZ S.n (qZ L) L.2.2.2.1 L.2.2.2.2 hj' hi hx (fun {σ ws v} r hv=>⟨ws.set j v,by
  obtain hl:=r.length;delta mB;obtain this:j+1 - (qd some ws).toArray.size=0:=by simp;exact aW 0x500858941406630d062 0x8000004210002000021 [_,_,_] hj hl
  rw [this];simp,r.set hv j⟩) h
theorem Fg (S:KnC C.K) (L:oQ C.K name p j) (hj:us.length=j) (hj':j<1000)
  (hi:st.h[i]? =some (.raw (iR 105) (.ref d::us))) (hx:st.h[d]? =some (.raw R xs)) (h:KS {st with h:=st.h.set i (.raw (iR 105) (.ref d::(us++[q])))}):SA C name (.ref i) q st KS:=
 xZ S.n (qZ L) L.2.2.2.1 L.2.2.2.2 hj' hi hx (fun {σ ws v} r hv=>⟨ws++[v],by
  obtain hl:=r.length;delta mB;obtain this:j+1 - (qd some ws).toArray.size=1:=by simp;simp_all
  rw [this, ←hj, ←hl];simp,r.append (.cons hv .nil)⟩) h
inductive fM (p:PV) (h:List PO) (name:Str):Prop
 |mk (i d:Nat) (us:List PV) (ns:List Str) (xs:List PV):p= .ref i→h[i]? =some (.raw (iR 202) (.ref d::us))→h[d]? =some (.raw (sR ns) xs)→ns.findIdx? (· ==name)=none→fM p h name
theorem Mc {p:PV} {v:ak} {pl:Sem Bool} {Q:ak×List ak→az→Prop} (S:KnC C.K) (M:gX C.K name f j) (x:Mt C B T σ st s) (hp:fM p st.h name) (hv:VR σ p v)
  (h:Q (.ref f,[v]) s):bx C.M C.A (getMethod v name pl) Q C.E s:=by
 refine nn fun gg=>?_;obtain ⟨i,d,us,ns,xs,rfl,hi,hd,hn⟩:=hp;refine gg ?_;refine aE (hv) fun a ha qz2=>?_;subst qz2;refine zY (x.inst ha hi hd) fun dx od vs ws hdx I e2 R r r2=>?_;refine method_fn x.topNow.KX I S.s.hga S.s.hk M.1 M.2.1 ?_ h;show (lookIn name od).map _=_;rw [R.look name,fD hn];rfl
theorem iD {args:List dh} {Q:ak→az→Prop} {E:ak→az→Prop} {A:jx} {M:pd} {env:Env}
  (hbase:ij o name env (eval o env)=eval o env)
  (hfew:((backTo pos (b0 args env)).all (fun x=> !x.1)&&(backToKw pos (ej [] env)).all (fun x=>x.1.isSome)
   &&decide (args.length+([]:List Keyword).length+(if ([]:List Keyword).isEmpty then 0 else 1)<30))=true)
  (hline:(apos.endLine==pos.line)=true)
  (h:bx M A (eval o env) (fun ov s₁=> ∀pl,bx M A (getMethod ov name pl) (fun fx s₂=>bx M A (callWith pos fx.1 fx.2 (backTo pos (b0 args env)) (backToKw pos (ej [] env))) Q E s₂) E s₁) E s):
  bx M A (eval (.Call (.Attribute o name apos) args [] pos) env) Q E s:=by
 rw [arm_eval_Call,hbase];refine ag (bc h (fun ov s₁ h₁=>?_) fun _ _ e=>e);refine ag (fk ?_);have hform:methodCallForm (args.length+([]:List Keyword).length) (backTo pos (b0 args env)) (backToKw pos (ej [] env))=true:=hfew;have hpos:methodCallPos true o env apos pos=pure pos:=by delta methodCallPos;simp [hline]
 delta methodCall;rw [hform];exact ag (cj (bc (h₁ _) (fun fx s₂ h₂=>ag (dy hpos h₂)) fun _ _ x=>x))
theorem e_methF {e:dh} {rest:List dh} (S:KnC C.K) (M:gX C.K name f j)
  (h:WE C o st fun p st1=>fM p st1.h name∧WA C pos (e::rest) st1 fun ps st2=>PC C (.ref f) (p::ps) st2 K)
  (hbase:ij o name C.env (eval o C.env)=eval o C.env:=by kernel_rfl)
  (hfew:((backTo pos (b0 (e::rest) C.env)).all (fun x=> !x.1)&&(backToKw pos (ej [] C.env)).all (fun x=>x.1.isSome)
   &&decide ((e::rest).length+([]:List Keyword).length+(if ([]:List Keyword).isEmpty then 0 else 1)<30))=true:=by kernel_rfl) (hline:(apos.endLine==pos.line)=true:=by rfl)
  (he':b0 (e::rest) C.env=(false,eval e C.env)::b0 rest C.env:=by rfl) (hp:(backTo pos (b0 rest C.env)).any (·.1)=false:=by rfl):WE C (.Call (.Attribute o name apos) (e::rest) [] pos) st K:=fun B T σ s x=>by
 refine iD hbase hfew hline (bc (h _ _ _ _ x) (fun v s1 hzz pl=>hzz.el fun τ p st1 h1 h2 hzy=>?_) fun _ _ e=>e);obtain ⟨h3,h4⟩:=hzy;refine Mc S M h2 h3 h1 ?_;refine callWith_K h2.topNow.KX M.2.2.1 (go (h4 _ _ _ _ h2) fun vs s2 τ' ps st2 k1 k2 k3=>⟨k2.topNow.KX,?_⟩) he' hp;exact gH (gH (k3 _ _ _ _ (v::vs) k2 (.cons h1.mono k1)))
theorem e_methF0 (S:KnC C.K) (M:gX C.K name f j)
  (h:WE C o st fun p st1=>fM p st1.h name∧PC C (.ref f) [p] st1 K)
  (hbase:ij o name C.env (eval o C.env)=eval o C.env:=by kernel_rfl) (hline:(apos.endLine==pos.line)=true:=by rfl):WE C (.Call (.Attribute o name apos) [] [] pos) st K:=fun B T σ s x=>by
 refine iD hbase rfl hline (bc (h _ _ _ _ x) (fun v s1 hzz pl=>hzz.el fun τ p st1 h1 h2 hzy=>?_) fun _ _ e=>e);obtain ⟨h3,h4⟩:=hzy;refine Mc S M h2 h3 h1 ?_;refine callWith_K0 h2.topNow.KX M.2.2.1 ?_;exact gH (h4 _ _ _ _ [v] h2 (.cons h1 .nil))
def Cx.un (C:Cx) (cl:Addr) (vs:List ak):Cx:={C with A:=C.A.under (.builtin "type.__call__" ⟨.ref cl::vs,[]⟩)}
theorem qW:(C.un cl vs).A.frames=C.A.frames:=by delta Cx.un jx.under;dsimp only;cases C.A.frames<;>rfl
theorem mD:(C.un cl vs).fs=C.fs:=by delta Cx.fs;rw [qW]
theorem bS.und (S:bS C (n+2)):bS (C.un cl vs) n:=
 ⟨S.hn,by have:=S.dep;show C.A.depth+1+n+1<_;lia,by have:=S.un;show C.A.units+_+3*n+200<_;have e:(Code.builtin "type.__call__" ⟨.ref cl::vs,[]⟩).cUnits≤6:=(by show 1+3*_≤6;first|(show 1+3*1≤6;omega)|(show 1+3*0≤6;exact rq _));lia,S.kn⟩
theorem Mt.un (x:Mt C B T σ st s):Mt (C.un cl vs) B T σ st s:=
 ⟨⟨x.ok.kind,x.ok.glob,x.ok.bltn,x.ok.nd,x.ok.wlow,x.ok.ktop,x.ok.inj,fun f hf=>x.ok.flow f (mD▸hf),qW (C:=C) (cl:=cl) (vs:=vs)▸x.ok.frs⟩,x.top,x.hr,x.vars,x.cl,x.pal,x.priv,fun b o e n n' n2=>x.keep b o e n n' (mD (C:=C) (cl:=cl) (vs:=vs)▸n2),x.sub,x.pre,x.low,x.gens,x.drawn,x.os,
  ⟨fun f m=>x.fr.al f (mD▸m),fun f m=>x.fr.nσ f (mD▸m),fun f m=>x.fr.kp f (mD▸m)⟩⟩
end
end
section
section
variable {B:Heap}{T σ:List Addr}{T' id:String}{a:Addr}{apos pos:Pos}{ep i:Nat}{k:Int}{kv vs:List (Int×ak)}{name:Str}{o:dh}{s:az}{v:ak}{w:aw}
variable {C:Cx} {st:St} {K:PV→St→Prop} {KB:Bool→St→Prop} {KF:Fl→St→Prop} {n:Nat}
theorem Hr {cl:Addr} {vs:List ak} (x:Mt (C.un cl vs) B T σ st s) (ok:C.Ok):Mt C B T σ st s:=
 ⟨ok,x.top,x.hr,x.vars,x.cl,x.pal,x.priv,fun b o e n n' n2=>x.keep b o e n n' (fun h=>n2 (mD (C:=C) (cl:=cl) (vs:=vs)▸h)),x.sub,x.pre,x.low,x.gens,x.drawn,x.os,
  ⟨fun f m=>x.fr.al f (mD (C:=C) (cl:=cl) (vs:=vs)▸m),fun f m=>x.fr.nσ f (mD (C:=C) (cl:=cl) (vs:=vs)▸m),fun f m=>x.fr.kp f (mD (C:=C) (cl:=cl) (vs:=vs)▸m)⟩⟩
theorem Fq {cl f:Addr} {ps:List PV} (S:rT C.K cl) (hi:findIn C.K (.ref cl) "__init__"=some (some (.ref f))) (hf:typeIn C.K (.ref f)=some (.type "function"))
  (h: ∀vs,He (C.un cl vs) (.ref f) (.ref (st.h.length+1)::ps) {st with h:=st.h++[.raw (sR []) []]++[.raw (iR cl) [.ref st.h.length]]} fun r st1=>r= .none∧K (.ref (st.h.length+1)) st1):PC C (.ref cl) ps st K:=by
 walk_at "T C,st,K,cl,f,ps S hi hf h";walk_at "I B,T,σ,s,vs x hv";have X:=x.topNow.KX;obtain z1:=x.alloc (o:=emptyDict) (p:= .raw (sR []) []) rfl ⟨_,b9 _ rfl,[],⟨[],0,rfl, .nil⟩, .nil⟩;have hl:=x.hr.len;obtain hd:(σ++[s.heap.objs.size]++[(s.heap.push emptyDict).objs.size])[st.h.length]? =some s.heap.objs.size:=by rw [bh (by simp [hl]), ←hl,bf (ay _)];simp
 obtain z2:=z1.alloc (o:=instObj cl s.heap.objs.size) (p:= .raw (iR cl) [.ref st.h.length]) rfl ⟨_,b9 _ rfl,[.ref s.heap.objs.size],⟨_,[],rfl,rfl⟩, .cons ⟨_,hd,rfl⟩ .nil⟩;have hx:(σ++[s.heap.objs.size]++[(s.heap.push emptyDict).objs.size])[st.h.length+1]? =some (s.heap.objs.size+1):=by
  rw [←hl,bf (by simp),gh];try simp
 obtain go:=h vs _ _ _ _ (.ref (s.heap.objs.size+1)::vs) z2.un (.cons ⟨_,hx,rfl⟩ hv.mono.mono);refine nn ?_;walk_at "I gg";obtain ⟨hh,g,dr,tk,os⟩:=s;refine gg ?_;refine wpAny_call (make_core (makes_of X S.hm) (looks_findIn X hi) (fun self=>bind_fn X self hf) (.inl rfl) (codeAny_mono go fun r s' q=>?_));cases r with
 |error e=>exact q
 |ok f=>
  cases f with
  |ret v=>
   obtain ⟨τ,p,st1,h1,h2,h3,h4⟩:=q;subst h3;cases h1;refine ⟨rfl,?_⟩;have h2':=Hr h2 x.ok;rw [aa,aa] at h2';refine ⟨_, .ref (st.h.length+1),st1,⟨_,?_,rfl⟩,h2',h4⟩;obtain this:(σ++([hh.objs.size]++([(hh.push emptyDict).objs.size]++τ)))=(σ++[hh.objs.size]++[(hh.push emptyDict).objs.size])++τ:=by simp
   rw [this,bh (af.mp hx).1];exact hx
  |next=>exact q.elim
  |brk=>exact q.elim
  |cont=>exact q.elim
def PV.isNone:PV→Bool
 | .none=>true
 |_=>false
def PV.glb:PV→Bool
 | .glob _=>true
 |_=>false
theorem rH {p:PV} (h:VR σ p v) (n:p.glb=false):(v==fj)=p.isNone:=by
 cases p with
 |none=>cases h;rfl
 |bool=>cases h;rfl
 |int=>obtain ⟨t,rfl⟩:=h;rfl
 |str=>obtain ⟨t,rfl⟩:=h;rfl
 |ref=>obtain ⟨a,_,rfl⟩:=h;rfl
 |glob=>cases n
theorem qO {p:PV} (n:p.glb=false) (h:K (.bool p.isNone) st):P2 C (d0 .Is) p .none st K:=fun B T σ s v u x hv hu=>by cases hu;exact is_none (rH hv n▸aO.bool x h)
theorem rY {p:PV} (n:p.glb=false) (h:K (.bool (!p.isNone)) st):P2 C (d0 .IsNot) p .none st K:=fun B T σ s v u x hv hu=>by cases hu;exact isNot_none (rH hv n▸aO.bool x h)
theorem e_named {t value:dh} (h:WE C value st fun p st1=>PA C t p st1 fun st2=>K p st2):WE C (.NamedExpr t value pos) st K:=fun B T σ s x=>by refine wpAny_NamedExpr (go (h _ _ _ _ x) fun v s1 τ p st1 h1 h2 h3=>?_);refine go (h3 _ _ _ _ _ h2 h1) fun _ s2 τ2 _ st2 _ k2 k3=>?_;rw [aa] at k2;exact ⟨_,p,st2,by rw [←aa];exact h1.mono,k2,k3⟩
theorem Mv {a b:dh} {pos:Pos} (h:WE C a st fun p st1=>PT C p st1 fun c st2=>if c=true then K p st2 else WE C b st2 K):WE C (.BoolOp .Or [a,b] pos) st K:=by
 walk_at "T C,st,K,a,b,pos h";walk_at "I B,T,σ,s x";rw [arm_eval_BoolOp];show bx _ _ (do let v ←eval a C.env;standAt pos;let t ←holding [v] (truthy v);match BoolOp.Or,t with| .And,false| .Or,true=>pure v|_,_=>eval b C.env) _ _ _;refine ag (go (h _ _ _ _ x) fun v s1 τ p st1 h1 h2 h3=>?_);refine ag (fk (ag (cj (go (h3 _ _ _ _ _ h2 h1) fun c s2 τ2 c' st2 k1 k2 k3=>?_))));cases k1;cases c with
 |true=>rw [if_pos rfl] at k3;rw [aa] at k2;exact av ⟨_,p,st2,by rw [←aa];exact h1.mono,k2,k3⟩
 |false=>rw [if_neg gp] at k3;exact gH (gH (k3 _ _ _ _ k2))
inductive dR (w:aw) (ks:List Int) (ep:Nat) (vs:List ak) (o:Obj):Prop
 |mk (es:Array i6) (h1:o.ExactDict) (h2:o.data= .dict es ep) (h3:KeysOf (intKind pw w) es) (h4:Pairs (intKind pw w) es.toList (ks.zip vs)) (h5:ks.Nodup) (h6:vs.length=ks.length):dR w ks ep vs o
abbrev dP (w:aw) (kvs:List (Int×PV)) (ep:Nat):PO:= .raw (dR w (kvs.map (·.1)) ep) (kvs.map (·.2))
inductive DV (σ:List Addr):List (Int×PV)→List (Int×ak)→Prop
 |nil:DV σ [] []
 |cons {k p v ps vs}:VR σ p v→DV σ ps vs→DV σ ((k,p)::ps) ((k,v)::vs)
theorem DV.of {kvs:List (Int×PV)}: ∀{vs:List ak},cF σ (kvs.map (·.2)) vs→DV σ kvs ((kvs.map (·.1)).zip vs):=by
 induction kvs with
 |nil=>exact fun h=>by rw [h.nilE];exact .nil
 |cons z l ih=>intro vs h;refine fW (cF.consE h) fun v us qz a r=>?_;rw [qz];exact .cons a (ih r)
theorem DV.back {kvs:List (Int×PV)} (h:DV σ kvs vs):cF σ (kvs.map (·.2)) (vs.map (·.2))∧vs.map (·.1)=kvs.map (·.1):=by
 induction h with
 |nil=>exact ⟨.nil,rfl⟩
 |cons a _ ih=>exact ⟨.cons a ih.1,by simp [ih.2]⟩
theorem DV.get {kvs:List (Int×PV)} (h:DV σ kvs vs) (k:Int):match kvs.lookup k with|some p=> ∃v,valueAt vs k=some v∧VR σ p v|none=>valueAt vs k=none:=by
 induction h with
 |nil=>rfl
 |@cons j p v ps vs a _ ih=>
  rw [c7];delta valueAt at*;rw [List.find?_cons];by_cases e:j=k
  ·subst e;simp only [beq_self_eq_true,decide_true];exact ⟨v,rfl,a⟩
  ·obtain e1:(k==j)=false:=by simp;exact fun q=>e q.symm
   simp only [e1,e,decide_false];exact ih
def pY (kvs:List (Int×PV)) (k:Int) (q:PV):List (Int×PV):=if kvs.any (fun x=>x.1=k) then kvs.map (fun x=>if x.1=k then (x.1,q) else x) else kvs++[(k,q)]
theorem DV.any {kvs:List (Int×PV)} (h:DV σ kvs vs) (k:Int):vs.any (fun x=>decide (x.1=k))=kvs.any (fun x=>decide (x.1=k)):=by
 induction h with
 |nil=>rfl
 |cons a _ ih=>simp [ih]
theorem DV.put1 {kvs:List (Int×PV)} (h:DV σ kvs vs) {q:PV} (hv:VR σ q v) (k:Int):DV σ (kvs.map (fun x=>if x.1=k then (x.1,q) else x)) (vs.map fun kv=>if kv.1=k then (kv.1,v) else kv):=by
 induction h with
 |nil=>exact .nil
 |@cons j p u ps vs a _ ih=>
  rw [bg,bg];dsimp only;split
  ·exact .cons hv ih
  ·exact .cons a ih
theorem DV.put2 {kvs:List (Int×PV)} (h:DV σ kvs vs) {q:PV} (hv:VR σ q v) (k:Int):DV σ (kvs++[(k,q)]) (vs++[(k,v)]):=by
 induction h with
 |nil=>exact .cons hv .nil
 |cons a _ ih=>exact .cons a ih
theorem DV.put {kvs:List (Int×PV)} (h:DV σ kvs vs) {q:PV} (hv:VR σ q v) (k:Int):DV σ (pY kvs k q) (stored vs k v):=by
 delta pY stored;rw [h.any k];split
 ·exact h.put1 hv k
 ·exact h.put2 hv k
def vA (kvs:List (Int×PV)) (k:Int):List (Int×PV):=kvs.filter fun x=>decide (x.1≠k)
theorem DV.drop {kvs:List (Int×PV)} (h:DV σ kvs vs) (k:Int):DV σ (vA kvs k) (without vs k):=by
 delta vA without;induction h with
 |nil=>exact .nil
 |@cons j p u ps vs a _ ih=>
  rw [c9,c9];dsimp only;split
  ·exact .cons a ih
  ·exact ih
theorem Gf {α β:Type}: ∀(l:List (α×β)),(l.map (·.1)).zip (l.map (·.2))=l:=by
 intro zi;induction zi with
 |nil=>exact rfl
 |cons ze r ih=>obtain ⟨a,b⟩:=ze;simp [ih]
theorem Nx {kvs:List (Int×PV)} {o:Obj} {es:Array i6} (h:DV σ kvs kv) (hc:o.ExactDict) (hd:o.data= .dict es ep) (hk:KeysOf (intKind pw w) es) (hp:Pairs (intKind pw w) es.toList kv) (hn:(kv.map (·.1)).Nodup):
  ∃vs,dR w (kvs.map (·.1)) ep vs o∧cF σ (kvs.map (·.2)) vs:=by
 obtain ⟨h1,h2⟩:=h.back;refine ⟨kv.map (·.2),⟨es,hc,hd,hk,?_,h2▸hn,by rw [bl, ←h2,bl]⟩,h1⟩;rw [←h2,Gf];exact hp
theorem Mt.dict (x:Mt C B T σ st s) {kvs:List (Int×PV)} (ha:σ[i]? =some a) (hi:st.h[i]? =some (dP w kvs ep)):
  ∃kv,s.heap.DictAt (intKind pw w) a kv ep∧DV σ kvs kv∧kv.length=kvs.length∧(a==sysModules)=false:=by
 refine nn fun gg=>?_;obtain ⟨o,vs,e,⟨es,h1,h2,h3,h4,h5,h6⟩,r⟩:=x.raw ha hi;refine gg ?_;have d:=DV.of r;refine ⟨_,⟨o,es,e,h1,h2,h3,h4,?_⟩,d,?_,?_⟩
 ·rw [d.back.2];exact h5
 ·have:=congrArg gt d.back.2;simpa using this
 ·have:=aq x.ok.ktop.1 (x.low a (fh ha))
  rw [beq_eq_false_iff_ne];intro e;rw [e] at this;exact absurd this (by decide)
theorem Dk {h:Heap} {kvs:List (Int×PV)} (D:h.DictOf (intKind pw w) a kv) (d:DV σ kvs kv): ∃ep,OR σ h a (dP w kvs ep):=by refine Pb (D) fun o es ep e h1 h2 h3 h4 h5=>?_;refine aE (Nx d h1 h2 h3 h4 h5) fun vs r1 r2=>?_;exact ⟨ep,o,e,vs,r1,r2⟩
theorem e_dict0 (h:K (.ref st.h.length) {st with h:=st.h++[dP C.w [] 0]}):WE C (.Dict [] [] pos) st K:=fun B T σ s x=>by refine wpAny_Dict_empty ?_;exact aO.new (x.alloc (p:=dP C.w [] 0) rfl ⟨_,b9 _ rfl,[],⟨#[],⟨rfl,rfl,rfl⟩,rfl,fun _ he=>by simp at he, .nil, .nil,rfl⟩, .nil⟩) x.hr.len h
theorem kN (w:aw) (k:Int) (t:Tok):(intKind pw w).is k (.int k t)=true:=intKind_is pw w k t
def yO (C:Cx) (st:St) (p:PV) (T':String):Prop:= ∀B T σ s v,Mt C B T σ st s→VR σ p v→s.TypeIs v T'∧ ∀a,v= .ref a→ ∃ob,s.heap.get? a=some ob∧ob.dict=none
theorem iJ {kvs:List (Int×PV)} (hi:st.h[i]? =some (dP C.w kvs ep)):yO C st (.ref i) "dict":=fun B T σ s v x ⟨a,ha,e⟩=>by subst e;refine aE (x.dict ha hi) fun kv D _=>?_;exact ⟨D.dictOf.typeIs,D.dictOf.mapOf.noDict⟩
theorem e_mT1 {e:dh} {rest:List dh} (pa:PlainAttrs T') (slot:Slot T' name id) (hty:typeOf (.builtin id)=pure (.type "method_descriptor"))
  (h:WE C o st fun p st1=>yO C st1 p T'∧WA C pos (e::rest) st1 fun ps st2=>PC C (.builtin id) (p::ps) st2 K)
  (hbase:ij o name C.env (eval o C.env)=eval o C.env:=by kernel_rfl)
  (hfew:((backTo pos (b0 (e::rest) C.env)).all (fun x=> !x.1)&&(backToKw pos (ej [] C.env)).all (fun x=>x.1.isSome)
   &&decide ((e::rest).length+([]:List Keyword).length+(if ([]:List Keyword).isEmpty then 0 else 1)<30))=true:=by kernel_rfl) (hline:(apos.endLine==pos.line)=true:=by rfl)
  (he:b0 (e::rest) C.env=(false,eval e C.env)::b0 rest C.env:=by rfl) (hp:(backTo pos (b0 rest C.env)).any (·.1)=false:=by rfl):WE C (.Call (.Attribute o name apos) (e::rest) [] pos) st K:=fun B T σ s x=>by
 refine wpAny_Call_method_lateS hbase hfew hline (bc (h _ _ _ _ x) (fun v s1 hrz=>hrz.el2 fun τ p st1 h1 h2 h3 h4=>?_) fun _ _ e=>e);obtain ⟨t1,t2⟩:=h3 _ _ _ _ _ h2 h1;refine ⟨T',id,pa,slot,hty,t1,t2,ny (go (h4 _ _ _ _ h2) fun vs s2 τ' ps st2 k1 k2 k3=>?_) he hp⟩;exact gH (gH (k3 _ _ _ _ (v::vs) k2 (.cons h1.mono k1)))
theorem e_mT0 (pa:PlainAttrs T') (slot:Slot T' name id) (hty:typeOf (.builtin id)=pure (.type "method_descriptor"))
  (h:WE C o st fun p st1=>yO C st1 p T'∧PC C (.builtin id) [p] st1 K)
  (hbase:ij o name C.env (eval o C.env)=eval o C.env:=by kernel_rfl) (hline:(apos.endLine==pos.line)=true:=by rfl):WE C (.Call (.Attribute o name apos) [] [] pos) st K:=fun B T σ s x=>by
 refine wpAny_Call_method_lateS hbase rfl hline (bc (h _ _ _ _ x) (fun v s1 hrz=>hrz.el2 fun τ p st1 h1 h2 h3 h4=>?_) fun _ _ e=>e);obtain ⟨t1,t2⟩:=h3 _ _ _ _ _ h2 h1;refine ⟨T',id,pa,slot,hty,t1,t2,nz ?_⟩;exact gH (h4 _ _ _ _ [v] h2 (.cons h1 .nil))
theorem wW {i:Nat} {kvs:List (Int×PV)} {ep:Nat} {k:Int} (hi:st.h[i]? =some (dP C.w kvs ep)) (h:K ((kvs.lookup k).getD .none) st):PC C (.builtin "dict.get") [.ref i, .int k] st K:=by
 walk_at "T C,st,K,i,kvs,ep,k hi h";walk_at "I B,T,σ,s,vs x hv";cases hv with|cons a r=>cases r with|cons b r=>
  cases r;obtain ⟨a,ha,rfl⟩:=a;obtain ⟨t,rfl⟩:=b;refine uB (x.dict ha hi) fun kv D d _ hs=>?_;refine call_meetsIn PySem.F.slot_dict_get D.dictOf.typeIs PySem.F.entry_dict_get (PySem.F.args_dict_get_2 _ _) (meets_dict_get (intKind pw C.w) a (kN C.w k t) hs) ⟨_,D.dictOf.mapOf,?_⟩;have g:=d.get k;cases e:kvs.lookup k with
  |none=>rw [e] at g h;dsimp only at g;rw [g];exact aO.none (x.tok _) h
  |some p=>rw [e] at g h;obtain ⟨v,g1,g2⟩:=g;rw [g1];exact aO.now g2 (x.tok _) h
theorem rQ {kvs:List (Int×PV)} {p:PV} (hi:st.h[i]? =some (dP C.w kvs ep)) (hp:kvs.lookup k=some p) (h:K p st):PG C (.ref i) (.int k) st K:=fun B T σ s v u x ⟨a,ha,e⟩ ⟨t,e'⟩=>by subst e e';refine uB (x.dict ha hi) fun kv D d _ hs=>?_;have g:=d.get k;rw [hp] at g;refine aE (g) fun v g1 g2=>?_;exact ⟨"dict",_,D.dictOf.typeIs,slot_dict_getitem.lookup,wpAny_getItem_of (kN C.w k t) D.dictOf.mapOf g1 (aO.now g2 (x.tok _) h)⟩
theorem Ep {kvs:List (Int×PV)} (hi:st.h[i]? =some (dP C.w kvs ep)) (h:K (.bool (kvs.lookup k).isSome) st):P2 C (d0 .In) (.int k) (.ref i) st K:=fun B T σ s v u x ⟨t,e⟩ ⟨a,ha,e'⟩=>by
 subst e e';refine uB (x.dict ha hi) fun kv D d _ hs=>?_;refine wpAny_in_of (kN C.w k t) hs D.dictOf.mapOf ?_;have g:=d.get k;cases e:kvs.lookup k with
 |none=>rw [e] at g h;dsimp only at g;rw [g];exact aO.bool (x.tok _) h
 |some p=>rw [e] at g h;obtain ⟨v,g1,g2⟩:=g;rw [g1];exact aO.bool (x.tok _) h
def Ra (C:Cx) (o i q:PV) (st:St) (K:St→Prop):Prop:= ∀B T σ s v u w,Mt C B T σ st s→VR σ o v→VR σ i u→VR σ q w→bx C.M C.A (setItem v u w) (aO C B T (fun _ (_:Unit) (_:Unit)=>True) σ fun _=>K) C.E s
theorem pa_sub {o i:dh} {pos:Pos} {q:PV} {KS:St→Prop} (h:WE C o st fun p st1=>WE C i st1 fun r st2=>Ra C p r q st2 KS)
  :PA C (.Subscript o i pos) q st KS:=by
 walk_at "T C,st,o,i,pos,q,KS h";walk_at "I B,T,σ,s,v x hv";rw [assign_Subscript];refine ag (cj (go (h _ _ _ _ x) fun ov s1 τ p st1 h1 h2 h3=>?_));refine ag (cj (go (h3 _ _ _ _ h2) fun iv s2 τ2 r st2 k1 k2 k3=>?_));refine ag (fk (ag (cj (bc (k3 _ _ _ _ _ _ _ k2 h1.mono k1 hv.mono.mono) (fun _ s3 hr=>?_) fun _ _ e=>e))));exact wpAny_release hr.up.up
theorem zK {kvs:List (Int×PV)} {q:PV} {KS:St→Prop} (hi:st.h[i]? =some (dP C.w kvs ep)) (hz:kvs.length≤big) (h: ∀ep',KS {st with h:=st.h.set i (dP C.w (pY kvs k q) ep')}):Ra C (.ref i) (.int k) q st KS:=fun B T σ s v u w x ⟨a,ha,e⟩ ⟨t,e'⟩ hw=>by subst e e';refine uB (x.dict ha hi) fun kv D d hl hs=>?_;refine wpAny_setItem_pairs (kN C.w k t) D.dictOf (fun h' D' sb=>?_) (by rw [hl];exact bF hz);obtain ⟨ep',o'⟩:=Dk D' (d.put hw k);exact aO.now (b:=()) trivial (x.upd _ ha sb o') (h ep')
inductive Jw (C:Cx) (KF:Fl→St→Prop) (p r:PV) (st2:St):Prop
 |mk (a:Nat) (k:Int) (kvs:List (Int×PV)) (ep:Nat) (q:PV) (h1:p= .ref a) (h2:r= .int k) (h3:st2.h[a]? =some (dP C.w kvs ep)) (h4:kvs.length≤big) (h5:kvs.lookup k=some q) (k1: ∀ep',KF .next {st2 with h:=st2.h.set a (dP C.w (vA kvs k) ep')}):Jw C KF p r st2
theorem Nm {o i:dh} {dp pos:Pos} (h:WE C o st fun p st1=>WE C i st1 (Jw C KF p)):
  W1 C (.Delete [.Subscript o i dp] pos) st KF:=by
 walk_at "T C,st,KF,o,i,dp,pos h";walk_at "I B,T,σ,s x";refine wpAny_Delete (wpAny_deleteEach_cons (delete_Subscript (go (h _ _ _ _ x) fun ov s1 τ p st1 h1 h2 h3=>go (h3 _ _ _ _ h2) fun iv s2 τ2 r st2 k1 k2 k3=>?_)));refine nn ?_;walk_at "I gg";obtain ⟨a,k,kvs,ep,q,rfl,rfl,hi,hz,hq,hK⟩:=k3;refine gg ?_;refine aE (h1.mono (τ:=τ2)) fun ad ha qz2=>?_;subst qz2;obtain ⟨t,rfl⟩:=k1;refine uB (k2.dict ha hi) fun kv D d hl hs=>?_;have g:=d.get k;rw [hq] at g;refine aE (g) fun v g1 g2=>?_;delta delItem
 try with_reducible refine cj ?_
 refine ag (wpAny_sequenceKey D.dictOf.typeIs (by decide) ?_);refine ag (wpAny_callSpecial?_slot (name:=iw "__delitem__") D.dictOf.typeIs pu
  (call_meetsIn pu D.dictOf.typeIs PySem.F.entry_dict_delitem (PySem.F.args_dict_delitem_2 _ _) (meets_dict_delitem_pairs (intKind pw C.w) ad (kN C.w k t)) ⟨kv,D.dictOf,(by rw [hl];exact bF hz),(by rw [g1];rfl),fun h' D' sb=>?_⟩))
 obtain ⟨ep',o'⟩:=Dk D' (d.drop k);refine av (wpAny_deleteEach_nil ?_);have z:=k2.upd (s2.toks+1) ha sb o';rw [aa] at z;exact ⟨_, .next,_,rfl,z,hK ep'⟩
end
end
section
variable {H:List PO}{ep i k:Nat}{kvs:List (Int×PV)}{r:Option PV}{w:aw}
open Classical in
def Pa (w:aw) (i:Nat) (kvs:List (Int×PV)) (ep:Nat) (k:Nat) (H:List PO):Option (Option PV):=if H[i]? =some (dP w kvs ep) then some (kvs[k]?.map fun x=> .int x.1) else none
open Classical in
def Ow (w:aw) (i:Nat) (kvs:List (Int×PV)) (ep:Nat) (k:Nat) (H:List PO):Option (Option PV):=if H[i]? =some (dP w kvs ep) then some (kvs[k]?.map (·.2)) else none
def zD:List ak→Obj→Prop:=fun vs o=>o={cls:= .type "dict_values",data:= .fields #[vs.headD .none]}
theorem Ll (h:H[i]? =some (dP w kvs ep)):Pa w i kvs ep k H=some (kvs[k]?.map fun x=> .int x.1):=if_pos h
theorem Mg (h:H[i]? =some (dP w kvs ep)):Ow w i kvs ep k H=some (kvs[k]?.map (·.2)):=if_pos h
theorem mG (h:Pa w i kvs ep k H=some r):H[i]? =some (dP w kvs ep)∧kvs[k]?.map (fun x=>PV.int x.1)=r:=by
 delta Pa at h;split at h
 ·rename_i e;exact ⟨e,ba h⟩
 ·cases h
theorem zG (h:Ow w i kvs ep k H=some r):H[i]? =some (dP w kvs ep)∧kvs[k]?.map (·.2)=r:=by
 delta Ow at h;split at h
 ·rename_i e;exact ⟨e,ba h⟩
 ·cases h
section
variable {C:Cx} {st:St} {K:PV→St→Prop} {KB:Bool→St→Prop} {KF:Fl→St→Prop} {n:Nat}
theorem HR.dict {σ:List Addr} {H:List PO} {h:Heap} (x:HR σ H h) {i:Nat} {a:Addr} {w:aw} {kvs:List (Int×PV)} {ep:Nat} (ha:σ[i]? =some a) (hi:H[i]? =some (dP w kvs ep)):
  ∃kv,h.DictAt (intKind pw w) a kv ep∧DV σ kvs kv∧kv.length=kvs.length:=by
 refine nn fun gg=>?_;obtain ⟨o,e,vs,⟨es,h1,h2,h3,h4,h5,h6⟩,r⟩:=x.obj ha hi;refine gg ?_;have d:=DV.of r;refine ⟨_,⟨o,es,e,h1,h2,h3,h4,?_⟩,d,?_⟩
 ·rw [d.back.2];exact h5
 ·have:=congrArg gt d.back.2;simpa using this
theorem DV.at {σ:List Addr} {kvs:List (Int×PV)} {vs:List (Int×ak)} (h:DV σ kvs vs): ∀{j:Nat} {k:Int} {p:PV},kvs[j]? =some (k,p)→ ∃v,vs[j]? =some (k,v)∧VR σ p v:=by
 induction h with
 |nil=>intro j k p e;simp at e
 |cons a _ ih=>
  intro j k p e;cases j with
  |zero=>simp only [ms,cy,Prod.mk.injEq] at e;obtain ⟨rfl,rfl⟩:=e;exact ⟨_,rfl,a⟩
  |succ j=>simpa using ih (j:=j) (by simpa using e)
theorem Ik {i:Nat} {kvs:List (Int×PV)} {ep:Nat} (hq:C.Quiet) (hp:st.h[i]? =some (dP C.w kvs ep)):PI C (.ref i) st (Pa C.w i kvs ep):=by
 walk_at "T C,st,i,kvs,ep hq hp";walk_at "I B,T,σ,s,v,Q x hv h";refine aE (hv) fun a ha qz2=>?_;subst qz2;refine uB (x.dict ha hp) fun kv D d hl hs=>?_;refine wpAny_pyIter_dict hs D (h _ (fun k o=>o.cls= .type "dict_keyiterator"∧o.data= .fields #[.ref a, .int k 0, .int kvs.length 0, .int ep 0]) rfl ⟨?_,?_,?_⟩ ⟨rfl,by rw [hl];rfl⟩)
 ·rintro k σ' H' s' p o Q E x' hpre ho hR hn hQ
  obtain ⟨h1,h2⟩:=mG hn;refine nN (x'.dict (dE hpre ha) h1) fun kv' D' d' hl'=>?_;refine nn fun gg=>?_;obtain ⟨⟨z,q⟩,hz,e⟩:=f4.mp h2;refine gg ?_;refine aE (d'.at hz) fun u hu hr=>?_;refine wpAny_pyNext_dict_item ⟨_,ho,hR.1,by rw [hl'];exact hR.2⟩ D' hu fun key h' hk hit sb=>?_;refine nN (hit) fun o' h3 h4 h5=>?_;subst e;obtain ⟨t,rfl⟩:=ak.isInt_shape hk;exact hQ (.int z t) h' _ o' ⟨t,rfl⟩ sb.extBut h3 ⟨h4,by rw [←hl'];exact h5⟩
 ·rintro k σ' H' s' o Q E x' hpre ho hR hn hQ
  obtain ⟨h1,h2⟩:=mG hn;refine nN (x'.dict (dE hpre ha) h1) fun kv' D' d' hl'=>?_;have h2:=k7.mp h2;refine wpAny_pyNext_dict_end hq.1 ⟨_,ho,hR.1,by rw [hl'];exact hR.2⟩ D' ?_ fun h' hx=>hQ h' _ hx;rw [bz] at h2 ⊢;rw [hl'];exact h2
 ·rintro k s' o Q E ho hR hQ
  exact wpAny_pyIter_keyiter ⟨_,ho,hR.1,hR.2⟩ hQ
theorem Gd {i:Nat} {kvs:List (Int×PV)} {ep:Nat} (hp:st.h[i]? =some (dP C.w kvs ep)) (h:K (.ref st.h.length) {st with h:=st.h++[.raw zD [.ref i]]}):PC C (.builtin "dict.values") [.ref i] st K:=by
 walk_at "T C,st,K,i,kvs,ep hp h";walk_at "I B,T,σ,s,vs x hv";cases hv with|cons a r=>
  cases r;obtain ⟨a,ha,rfl⟩:=a;refine uB (x.dict ha hp) fun kv D d hl hs=>?_;refine call_meetsIn PySem.F.slot_dict_values D.dictOf.typeIs PySem.F.entry_dict_values (PySem.F.args_dict_values_1 _) (meets_dict_values (intKind pw C.w) a hs) ⟨⟨_,D.dictOf⟩,?_⟩;exact aO.new (x.alloc (p:= .raw zD [.ref i]) rfl ⟨_,b9 _ rfl,[.ref a],rfl, .cons ⟨a,by rw [bh (af.mp ha).1];exact ha,rfl⟩ .nil⟩) x.hr.len h
theorem Be {i j:Nat} {kvs:List (Int×PV)} {ep:Nat} (hq:C.Quiet) (hj:st.h[j]? =some (.raw zD [.ref i])) (hp:st.h[i]? =some (dP C.w kvs ep)):PI C (.ref j) st (Ow C.w i kvs ep):=by
 walk_at "T C,st,i,j,kvs,ep hq hj hp";walk_at "I B,T,σ,s,v,Q x hv h";refine aE (hv) fun b hb qz2=>?_;subst qz2;refine fW (x.raw hb hj) fun o vs e qz3 r=>?_;subst qz3;cases r with|cons r1 r2=>
  cases r2;refine aE (r1) fun a ha qz2=>?_;subst qz2;refine uB (x.dict ha hp) fun kv D d hl hs=>?_;refine wpAny_pyIter_values ⟨_,e,rfl,rfl⟩ D (h _ (fun k o=>o.cls= .type "dict_valueiterator"∧o.data= .fields #[.ref a, .int k 0, .int kvs.length 0, .int ep 0]) rfl ⟨?_,?_,?_⟩ ⟨rfl,by rw [hl];rfl⟩)
  ·rintro k σ' H' s' p o Q E x' hpre ho hR hn hQ
   obtain ⟨h1,h2⟩:=zG hn;refine nN (x'.dict (dE hpre ha) h1) fun kv' D' d' hl'=>?_;refine nn fun gg=>?_;obtain ⟨⟨z,q⟩,hz,e⟩:=f4.mp h2;refine gg ?_;refine aE (d'.at hz) fun u hu hr=>?_;refine wpAny_pyNext_values_item ⟨_,ho,hR.1,by rw [hl'];exact hR.2⟩ D' hu fun h' hit sb=>?_;refine nN (hit) fun o' h3 h4 h5=>?_;subst e;exact hQ u h' _ o' hr sb.extBut h3 ⟨h4,by rw [←hl'];exact h5⟩
  ·rintro k σ' H' s' o Q E x' hpre ho hR hn hQ
   obtain ⟨h1,h2⟩:=zG hn;refine nN (x'.dict (dE hpre ha) h1) fun kv' D' d' hl'=>?_;have h2:=k7.mp h2;refine wpAny_pyNext_values_end hq.1 ⟨_,ho,hR.1,by rw [hl'];exact hR.2⟩ D' ?_ fun h' hx=>hQ h' _ hx;rw [bz] at h2 ⊢;rw [hl'];exact h2
  ·rintro k s' o Q E ho hR hQ
   exact wpAny_pyIter_valiter ⟨_,ho,hR.1,hR.2⟩ hQ
end
end
section
section
variable {S:Int→Bool}{i m:Nat}
variable {C:Cx} {st:St} {K:PV→St→Prop} {KB:Bool→St→Prop} {KF:Fl→St→Prop} {n:Nat}
inductive Ql (w:aw) (S:Int→Bool) (m:Nat) (vs:List ak) (o:Obj):Prop
 |mk (es ep t) (h1:o.ExactSet) (h2:o.data= .set es ep t) (h3:ElemsOf (intKind pw w) es.toList) (h4: ∀k,S k=true↔ ∃e∈es.toList,(intKind pw w).is k e.2=true) (h5:es.size<scanBound) (h6:t.fits es.size=true) (h7:es.size=m):Ql w S m vs o
abbrev pN (w:aw) (S:Int→Bool) (m:Nat):PO:= .raw (Ql w S m) []
theorem Mt.set {B:Heap} {T σ:List Addr} {s:az} (x:Mt C B T σ st s) {i:Nat} {a:Addr} {w:aw} {S:Int→Bool} {m:Nat} (ha:σ[i]? =some a) (hi:st.h[i]? =some (pN w S m)):s.heap.SetOf (intKind pw w) a S m:=by walk_at "T C,st,B,T,σ,s x i,a,w,S,m ha hi";refine nn fun gg=>?_;obtain ⟨o,vs,e,⟨es,ep,t,h1,h2,h3,h4,h5,h6,h7⟩,r⟩:=x.raw ha hi;refine gg ?_;exact ⟨o,es,ep,t,e,h1,h2,h3,h4,h5,h6,h7⟩
theorem Nb {w:aw} {σ:List Addr} {h:Heap} {a:Addr} {S:Int→Bool} {m:Nat} (D:h.SetOf (intKind pw w) a S m):OR σ h a (pN w S m):=by walk_at "T w,σ,h,a,S,m D";refine nn fun gg=>?_;obtain ⟨o,es,ep,t,e,h1,h2,h3,h4,h5,h6,h7⟩:=D;refine gg ?_;exact ⟨o,e,[],⟨es,ep,t,h1,h2,h3,h4,h5,h6,h7⟩, .nil⟩
theorem Kf (h:K (.ref st.h.length) {st with h:=st.h++[pN C.w (fun _=>false) 0]}):PC C (.type "set") [] st K:=fun B T σ s vs x hv=>by cases hv;refine call_set_0 fun led=>?_;exact aO.new (x.alloc (p:=pN C.w (fun _=>false) 0) rfl ⟨_,b9 _ rfl,[],⟨#[],0,_,⟨rfl,rfl,rfl⟩,rfl,fun e he=>by simp at he,fun k=>by simp,by decide,by rfl,rfl⟩, .nil⟩) x.hr.len h
theorem yW {k:Int} (hi:st.h[i]? =some (pN C.w S m)) (h:K (.bool (S k)) st):P2 C (d0 .In) (.int k) (.ref i) st K:=fun B T σ s v u x ⟨t,e⟩ ⟨a,ha,e'⟩=>by subst e e';exact wpAny_inSet_of (kN C.w k t) rfl (x.set ha hi) (aO.bool (x.tok _) h)
theorem Bm (hi:st.h[i]? =some (pN C.w S m)):yO C st (.ref i) "set":=fun B T σ s v x ⟨a,ha,e⟩=>by subst e;exact ⟨(x.set ha hi).typeIs,(x.set ha hi).noDict⟩
theorem Cu {i:Nat} {S:Int→Bool} {m:Nat} {k:Int} (hi:st.h[i]? =some (pN C.w S m)) (hz:m+1<scanBound) (h:K .none {st with h:=st.h.set i (pN C.w (fun j=>S j||decide (j=k)) (if S k=true then m else m+1))}):PC C (.builtin "set.add") [.ref i, .int k] st K:=by
 walk_at "T C,st,K,i,S,m,k hi hz h";walk_at "I B,T,σ,s,vs x hv";cases hv with|cons a r=>cases r with|cons b r=>
  cases r;obtain ⟨a,ha,rfl⟩:=a;obtain ⟨t,rfl⟩:=b;exact call_set_add (kN C.w k t) rfl (x.set ha hi) hz fun h' sb D=>aO.none (x.upd _ ha sb (Nb D)) h
theorem xR {i:Nat} {xs:List PV} (hl:st.h[i]? =some (.tuple xs)) (hz:xs.length≤big) (h:K (.int xs.length) st):PC C (.builtin "len") [.ref i] st K:=by
 walk_at "T C,st,K,i,xs hl hz h";walk_at "I B,T,σ,s,vs x hv";cases hv with|cons p r=>
  cases r;refine aE (p) fun a ha qz2=>?_;subst qz2;refine cH (x.tuple ha hl) fun us m eo r=>?_;have e:us.toArray.size=xs.length:=by rw [cb,r.length]
  refine len_tuple (eW eo) (by rw [e];exact qY hz) ?_;rw [e];exact aO.int (x.tok _) h
theorem pZ (h:Heap) (vs:List ak) (out:Array ak): ∃e,(sortedHeap (h.push (seqObj "list" vs.toArray 0)) h.objs.size vs out).get? h.objs.size=some (seqObj "list" out e):=by obtain h1:(h.push (seqObj "list" vs.toArray 0)).get? h.objs.size=some (seqObj "list" vs.toArray 0):=b9 _ rfl;obtain ⟨e1,h2⟩: ∃e1,((h.push (seqObj "list" vs.toArray 0)).update h.objs.size (qj fun _=>#[])).get? h.objs.size=some (seqObj "list" #[] e1):=⟨_,get?_update_seq h1 (fun _=>#[])⟩;obtain h3:=cc (seqObj "list" #[] 0) (cc (seqObj "tuple" vs.toArray 0) h2);exact ⟨_,get?_update_seq h3 (fun _=>out)⟩
theorem oR (h:Heap) (vs:List ak) (out:Array ak) {b:Addr} {o:Obj} (e:h.get? b=some o):(sortedHeap (h.push (seqObj "list" vs.toArray 0)) h.objs.size vs out).get? b=some o:=by have hb:h.objs.size≠b:=gm (dc e);delta sortedHeap;rw [iu _ _ hb];refine cc _ (cc _ ?_);rw [iu _ _ hb];exact cc _ e
theorem wU {i:Nat} {l:List Int} (hi:st.h[i]? =some (.tuple (aI l))) (hz:l.length<64) (h: ∀l',l'.Perm l→l'.Pairwise (· ≤ ·)→K (.ref st.h.length) {st with h:=st.h++[.list (aI l')]}):PC C (.builtin "sorted") [.ref i] st K:=by
 walk_at "T C,st,K,i,l hi hz h";walk_at "I B,T,σ,s,vs x hv";cases hv with|cons p r=>
  cases r;refine aE (p) fun a ha qz2=>?_;subst qz2;refine cH (x.tuple ha hi) fun us m eo r=>?_;have hl:us.length=l.length:=by rw [r.length];simp [aI]
  refine qg kind_sorted plain_sorted entry_sorted (args_sorted1 _) ?_;delta Builtin.«sorted»;refine ag (m:=checkCount "sorted" 1 1 _) (av ?_);refine ag (wpAny_collect_seq a (.inr rfl) eo rfl rfl (fun h' hk=>?_) (by rw [cb,hl,sizeLine_eq];lia));refine ag (wpAny_newList ?_);show bx _ _ _ _ _ {s with heap:=h'.push (seqObj "list" us.toArray 0)};have hoL:(h'.push (seqObj "list" us.toArray 0)).get? h'.objs.size=some (seqObj "list" us.toArray 0):=b9 _ rfl;refine ag (cj (wpAny_call_entry slot_list_sort ⟨_,hoL,rfl⟩ entry_list_sort (list_sort_tree hoL (kO r) (by rw [hl];exact hz) fun out ns' a1 a2 a3=>⟨_,rfl,?_⟩) (args_list_sort _)));refine av ⟨_,rfl,?_⟩;obtain y:=x.grow s.toks hk;obtain ⟨e,he⟩:=pZ h' us out;exact aO.new (y.allocAt (p:= .list (aI ns')) s.toks (fun b o q=>oR h' us out q) (ay _) ⟨_,he,out.toList,e,by simp [seqObj],xH a1⟩) x.hr.len (h ns' a2 a3)
theorem xQ {B:Heap} {T σ:List Addr} {s:az} {name:Str} {p:PV} {v:ak} {f:Addr} {j:Nat} {ex:Bool} {Q:ak→az→Prop} (S:KnC C.K) (M:gX C.K name f j) (hcn:copiedNames.contains name=false) (x:Mt C B T σ st s) (hp:fM p st.h name) (hv:VR σ p v)
  (h:Q (.ref s.heap.objs.size) {s with heap:=s.heap.push (methodObj (.ref f) v),toks:=s.toks+1}):bx C.M C.A (getAttr v name ex) Q C.E s:=by
 refine nn fun gg=>?_;obtain ⟨i,d,us,ns,xs,rfl,hi,hd,hn⟩:=hp;refine gg ?_;refine aE (hv) fun a ha qz2=>?_;subst qz2;refine zY (x.inst ha hi hd) fun dx od vs ws hdx I e2 R r r2=>?_;refine aE (any_some S.hd) fun cd hcd hcd'=>?_;refine get_bind x.topNow.KX I S.s.hga (g:= .builtin "function.__get__") (a:= .ref f) ?_ S.s.hk ?_
 ·obtain g1:specialIn C.K (.ref f) "__get__"=some (some (.builtin "function.__get__")):=by delta specialIn;rw [M.2.1];kernel_rfl
  obtain g2:takesIn C.K (.ref f)=some false:=by
   obtain a1:specialIn C.K (.ref f) "__set__"=some none:=by delta specialIn;rw [M.2.1];kernel_rfl
   obtain a2:specialIn C.K (.ref f) "__delete__"=some none:=by delta specialIn;rw [M.2.1];kernel_rfl
   delta takesIn;rw [a1];dsimp only;rw [a2];rfl
  obtain g3:W.ownOf cd (some od) name=some none:=by delta W.ownOf;rw [hcd',if_pos rfl];dsimp only;rw [R.look name,fD hn]
  delta findObj;rw [hcd,ev,M.1,ev];dsimp only;rw [g1,ev];dsimp only;rw [g2,ev];dsimp only;rw [g3,ev];dsimp only;rw [hcn,Bool.false_and,if_neg (by decide)]
 ·refine wpAny_call (fn_get (s:={s with toks:=s.toks+1}) x.topNow.KX M.2.1 ?_)
  exact av h
inductive Nt (C:Cx) (f:Addr) (K:PV→St→Prop) (p r:PV) (st2:St):Prop
 |mk (i:Nat) (xs:List PV) (h1:r= .ref i) (h2:st2.h[i]? =some (.tuple xs)) (h3:xs.length≤big) (k:He C (.ref f) (p::xs) st2 K):Nt C f K p r st2
theorem Hl {o ze:dh} {name:Str} {apos pos sp:Pos} {f:Addr} {j:Nat} (S:KnC C.K) (M:gX C.K name f j) (hcn:copiedNames.contains name=false)
  (h:WE C o st fun p st1=>fM p st1.h name∧WE C ze st1 (Nt C f K p))
  (hbase:ij o name C.env (eval o C.env)=eval o C.env:=by kernel_rfl)
  (ht:(backTo pos (b0 [.Starred ze sp] C.env))=[(true,do let u ←eval ze C.env;standAt pos;pure u)]:=by rfl):WE C (.Call (.Attribute o name apos) [.Starred ze sp] [] pos) st K:=by
 walk_at "T C,st,K,o,ze,name,apos,pos,sp,f,j S M hcn h hbase ht";walk_at "I B,T,σ,s x";rw [arm_eval_Call,hbase,ht];refine ag (bc (h _ _ _ _ x) (fun v s1 hrz=>hrz.el2 fun τ p st1 h1 h2 h3 h4=>?_) fun _ _ e=>e);refine ag (fk ?_);delta methodCall;show bx _ _ (holding [v] (getAttr v name true>>=fun fx=>pure (fx,[]))>>=_) _ _ _;refine ag (cj (ag (xQ S M hcn h2 h3 h1 (av ?_))));refine ag (m:=methodCallPos _ _ _ _ _) (av ?_);have y:=(h2.junk (methodObj (.ref f) v)).tok (s1.toks+1);obtain hp0:(s1.heap.push (methodObj (.ref f) v)).get? s1.heap.objs.size=some (methodObj (.ref f) v):=b9 _ rfl;have lo:eD C B (σ++τ) s1.heap.objs.size:=h2.loose (ay _);refine nn ?_;walk_at "I gg";obtain ⟨oc,od,osl,nm,qual,kV,doc,pm,an,cdv,ct,hK,hcd⟩:=M.2.2.2;refine gg ?_;show bx _ _ (callWith pos (.ref s1.heap.objs.size) [] [(true,do let u ←eval ze C.env;standAt pos;pure u)] []) _ _ _;delta callWith evalArgs;dsimp only;refine ag (cj (ag (ag (go (h4 _ _ _ _ y.rebase) fun u s2 τ2 r st2 k1 k2 hzz=>ag (fk (av (ag (av ?_))))))));obtain ⟨i,xs,hr,hi,hz,hc⟩:=hzz;have hp2:s2.heap.get? s1.heap.objs.size=some (methodObj (.ref f) v):=k2.keep _ _ hp0 lo.nσ (fun hw=>lo.np (bZ hw)) lo.nf;have k2:=y.trans k2;subst hr;refine aE (k1) fun a ha qz2=>?_;subst qz2;refine cH (k2.tuple ha hi) fun us m eo r=>?_;obtain hT:=eW eo;refine cj ?_;rw [List.all_nil,if_pos rfl];refine ag (av ?_);refine ag ?_;dsimp only;refine ag ?_;delta notIterableAtAll;refine ag (wpAny_specialOf hT.typeIs PySem.F.slot_tuple_iter.lookup ?_);refine av ?_;rw [if_neg (by decide)];refine cj (wpAny_collect_seq a (.inr rfl) eo rfl rfl (fun h' hk=>?_) (by rw [cb,r.length];exact bF hz));refine av ?_;have z:=k2.grow s2.toks hk;refine ag (fk ?_);refine ag (m:=keeperOf (.ref s1.heap.objs.size)) ?_;delta keeperOf;refine ag (nw (hk _ _ hp2) ?_);dsimp only;rw [if_neg (by decide)];show bx _ _ (load f>>=_) _ _ _;refine ag (nw (z.topNow.KX _ _ hK) ?_);refine av ?_;show bx _ _ (operate _ (call (.ref s1.heap.objs.size) us [])>>=_) _ _ _;refine ag (wpAny_operateT (bc (wpAny_call (method_call (hk _ _ hp2) (hc _ _ _ _ (v::us) z (.cons h1.mono r)))) (fun r2 s3 hr=>ag (cj (wpAny_point (av hr.up.up)))) fun _ _ e=>e))
theorem zC {fd:FuncData} {ps qs:List PV} {ns:List Str} {y:Str} {K:List (Str×PV)→St→Prop} (hn:ns.length=ps.length) (hz:qs.length≤big)
  (hb: ∀vs us:List ak,vs.length=ps.length→us.length=qs.length→bindArgs fd ⟨vs++us,[]⟩=(do let t ←newTuple us;pure (ns.zip vs++[(y,t)])))
  (h:K (ns.zip ps++[(y, .ref st.h.length)]) {st with h:=st.h++[.tuple qs]}):PB C fd (ps++qs) st K:=fun A E B T' σ s vs x hv=>by
 obtain ⟨v1,v2,rfl,r1,r2⟩: ∃v1 v2,vs=v1++v2∧cF σ ps v1∧cF σ qs v2:=by
  clear h hb hn;induction ps generalizing vs with
  |nil=>exact ⟨[],vs,rfl, .nil,hv⟩
  |cons p ps ih=>
   cases hv with|cons a b=>
    refine fW (ih _ b) fun v1 v2 qz2 q1 q2=>?_;subst qz2;exact ⟨_::v1,v2,rfl, .cons a q1,q2⟩
 rw [hb v1 v2 r1.length r2.length];delta newTuple;refine ag (wpAny_newObj_type ?_ (by show v2.toArray.size≤sizeLine;rw [cb,r2.length];exact bF hz));obtain z:=Ka x r2;refine av ⟨[s.heap.objs.size],ns.zip ps++[(y, .ref st.h.length)],_,⟨?_,?_⟩,z,h⟩
 ·rw [bv,bv,jj (by rw [r1.length];exact dg hn),jj (dg hn)];rfl
 ·obtain f1:(ns.zip v1).map (·.2)=v1:=ji (by rw [r1.length];exact dg hn.symm)
  obtain f2:(ns.zip ps).map (·.2)=ps:=ji (dg hn.symm);rw [bv,bv,f1,f2];refine r1.mono.append (.cons ⟨s.heap.objs.size,?_,rfl⟩ .nil);rw [←x.hr.len,bf (ay _)];simp
end
end
section
open PySem.Builtin PySem.Builtin.ObjectAttr
open PySem.SeqAt
theorem uA:typeOf (.builtin "list_iterator.__next__")=pure (.type "wrapper_descriptor"):=by show builtinType "list_iterator.__next__"=_;rw [builtinType_eq_fast];kernel_rfl
theorem Bs:isSubtype (.type "list_iterator") (.type "list_iterator")=pure true:=by rw [isSubtype_type];kernel_rfl
theorem Bo:entryFor table "object.__getattribute__"=some Builtin.«object.__getattribute__»:=entryFor_of_tree (by kernel_rfl)
theorem Fb:Slot "list_iterator" "__getattribute__" "object.__getattribute__":=
 .of (owner:="object") (n:="__getattribute__") (by rw [typeLookup_type,fg];kernel_rfl) (by decide+kernel) (by decide+kernel) (by decide+kernel)
  (by first|exact .inl (by decide+kernel)|exact .inr (by decide+kernel)) (by rw [isSubtype_type];kernel_rfl)
theorem Ge (a b:ak):argsOk "object.__getattribute__" ⟨[a,b],[]⟩:=by delta argsOk;kernel_rfl
theorem Do:g9 (.type "list_iterator") "__next__"=pure (some (.builtin "list_iterator.__next__")):=by rw [typeLookup_type,fg];kernel_rfl
theorem oU:Slot "wrapper_descriptor" "__get__" "wrapper_descriptor.__get__":=
 .of (owner:="wrapper_descriptor") (n:="__get__") (by rw [typeLookup_type,fg];kernel_rfl) (by decide+kernel) (by decide+kernel) (by decide+kernel)
  (by first|exact .inl (by decide+kernel)|exact .inr (by decide+kernel)) (by rw [isSubtype_type];kernel_rfl)
theorem xW:g9 (.type "wrapper_descriptor") "__set__"=pure none:=by rw [typeLookup_type,fg];kernel_rfl
theorem wR:g9 (.type "wrapper_descriptor") "__delete__"=pure none:=by rw [typeLookup_type,fg];kernel_rfl
theorem tW:entryFor table "wrapper_descriptor.__get__"=some Builtin.«wrapper_descriptor.__get__»:=entryFor_of_tree (by kernel_rfl)
theorem xI (a b c:ak):argsOk "wrapper_descriptor.__get__" ⟨[a,b,c],[]⟩:=by delta argsOk;kernel_rfl
def tF (id:String) (self:ak):Obj:={cls:= .type "method-wrapper",data:= .fields #[.builtin id,self]}
section
variable {a:Addr}
variable {prog:n0} {w:aw} {A:jx} {E:ak→az→Prop} {s:az}
theorem Ba {P:Fin→az→Prop} (hT:s.TypeIs (.ref a) "list_iterator") (h:P (.done (.ret (.ref s.heap.objs.size))) {s with heap:=s.heap.push (tF "list_iterator.__next__" (.ref a))}):
  bx (model prog w) A (Builtin.«wrapper_descriptor.__get__» ⟨[.builtin "list_iterator.__next__", .ref a, .type "list_iterator"],[]⟩) P E s:=by
 delta Builtin.«wrapper_descriptor.__get__»;refine ag (dy (a:=(.builtin "list_iterator.__next__",some (.ref a),some (.type "list_iterator"))) (by first|rfl|kernel_rfl) ?_);dsimp only;show bx _ _ (_>>=_) _ _ _;refine ag ?_;refine ag (dy (a:=((("__next__":Str),jz "list_iterator"):Str×ak)) (by first|rfl|kernel_rfl) ?_);dsimp only;refine ag (wpAny_isInstance hT Bs ?_);rw [if_neg (by decide)];refine av ?_;exact ag (wpAny_newObj_type (av h))
theorem Dj {o:Obj} {expr:Bool} {Q:ak→az→Prop} (ho:s.heap.get? a=some o) (hc:o.cls= .type "list_iterator") (hd:o.dict=none) (hn:notCls o=true)
  (h: ∀t,Q (.ref s.heap.objs.size) {s with heap:=s.heap.push (tF "list_iterator.__next__" (.ref a)),toks:=t}):bx (model prog w) A (getAttr (.ref a) "__next__" expr) Q E s:=
 yJ Do uA oU.lookup xW wR (by decide) Fb Bo Ge (fun hT hq=>wpAny_call_entry oU uA tW (Ba hT ⟨_,rfl,hq⟩) (xI _ _ _)) ho hc hd hn h
end
end
section
open PySem.Builtin PySem.Builtin.ObjectAttr
open PySem.SeqAt
inductive yI (k:Nat) (vs:List ak) (o:Obj):Prop
 |mk (a:Addr) (e:vs=[.ref a]) (h:o={cls:= .type "list_iterator",data:= .fields #[.ref a, .int k 0]}):yI k vs o
theorem Af:builtinKind "list_iterator.__next__"=some .slot:=by decide+kernel
section
variable {prog:n0} {w:aw} {A:jx} {E:ak→az→Prop} {s:az}
theorem Dc {M:pd} {a:Addr} {Q:Unit→az→Prop} (h:Q () s):bx M A (checkBoundCall "list_iterator.__next__" ⟨[.ref a],[]⟩) Q E s:=by
 have g:=args_listiter_next (.ref a);unfold argsOk at g;unfold checkBoundCall;rw [Af];cases e:qy "list_iterator.__next__" with
 |none=>exact av h
 |some sig=>
  rw [e] at g;dsimp only at g ⊢;rw [if_pos (by decide)]
  first|exact dy g h|exact ag (dy g (av h))
theorem Al {it l:Addr} {i:Nat} {items:Array ak} {x:ak} {P:PySem.Fin→az→Prop} (hit:s.heap.IsListIter it l i) (hl:s.heap.IsList l items) (hx:items[i]? =some x)
  (hQ: ∀h',h'.get? it=some {cls:= .type "list_iterator",data:= .fields #[.ref l, .int (i+1:Nat) 0]}→j7 it s.heap h'→P (.done (.ret x)) {s with heap:=h'}) (hex:s.heap.get? it=some {cls:= .type "list_iterator",data:= .fields #[.ref l, .int i 0]}):
  bx (model prog w) A (Builtin.«list_iterator.__next__» ⟨[.ref it],[]⟩) P E s:=by
 refine nn fun gg=>?_;obtain ⟨ol,hol,_,nl,hdl⟩:=hl;refine gg ?_;show bx _ _ (field (.ref it) 0>>=_) _ _ s;refine ag (jf hex rfl (x:= .ref l) rfl ?_);show bx _ _ (if (fv l==fj)=true then _ else _) _ _ s;rw [if_neg (show ¬((fv l==fj)=true) from gp)];show bx _ _ (field (.ref it) 1>>=_) _ _ s;refine ag (jf hex rfl (x:= .int i 0) rfl ?_);show bx _ _ (seqItems? (.ref l)>>=_) _ _ s;refine ag (wpAny_seqItems hol hdl ?_);simp only [bo,hx];refine ag (wpAny_setField hex rfl (by simp) (av (hQ _ ?_ (gq ..))));rw [fu _ hex (gf (jr rfl _))];simp [kj,rawInt]
theorem Ec {it l:Addr} {i:Nat} {items:Array ak} {P:PySem.Fin→az→Prop} (hh:A.handled=none) (hl:s.heap.IsList l items) (hx:items[i]? =none)
  (hQ: ∀h1 h' e t,j7 it s.heap h1→(∃o,h1.get? it=some o)→(∀b o,h1.get? b=some o→h'.get? b=some o)→h1.get? e=none→h'.get? e=some {cls:= .type "StopIteration",data:= .fields #[t, .none, .none, .none, .bool false, .none]}→E (.ref e) {s with heap:=h'}) (hex:s.heap.get? it=some {cls:= .type "list_iterator",data:= .fields #[.ref l, .int i 0]}):
  bx (model prog w) A (Builtin.«list_iterator.__next__» ⟨[.ref it],[]⟩) P E s:=by
 walk_at "T prog,w,A,E,s,it,l,i,items,P hh hl hx hQ hex";refine nn fun gg=>?_;obtain ⟨ol,hol,_,nl,hdl⟩:=hl;refine gg ?_;show bx _ _ (field (.ref it) 0>>=_) _ _ s;refine ag (jf hex rfl (x:= .ref l) rfl ?_);show bx _ _ (if (fv l==fj)=true then _ else _) _ _ s;rw [if_neg (show ¬((fv l==fj)=true) from gp)];show bx _ _ (field (.ref it) 1>>=_) _ _ s;refine ag (jf hex rfl (x:= .int i 0) rfl ?_);show bx _ _ (seqItems? (.ref l)>>=_) _ _ s;refine ag (wpAny_seqItems hol hdl ?_);simp only [bo,hx];refine ag (wpAny_rule (ag (wpAny_setField hex rfl (by simp) ?_)));show bx _ _ (newExc (.type "StopIteration") []>>=_) _ _ _;refine ag ?_;simp only [newExc,newTuple];refine ag (wpAny_newObj_type ?_ (by size_fits));refine ag (m:=firstArgMember _ _) (dy (a:=fj) (by first|rfl|(simp only [firstArgMember];rfl)) ?_);refine wpAny_newObj_type ?_ (by size_fits);refine ag (wpAny_handled ?_);rw [hh];refine ag (av (wpAny_throw ?_));refine hQ (s.heap.update it (kj (·.setIfInBounds 0 .none))) _ _ (.ref (s.heap.update it (kj (·.setIfInBounds 0 .none))).objs.size) (gq ..) ⟨_,fu _ hex (gf (jr rfl _))⟩
  (fun b o e=>cc _ (cc _ e)) ?_ ?_
 ·refine sm ?_
  rw [gh];exact jn _
 ·rw [b9 _ rfl];rfl
end
section
variable {C:Cx} {st:St} {K:PV→St→Prop} {KB:Bool→St→Prop} {KF:Fl→St→Prop} {X:St→Prop} {n:Nat} {kb:Bool}
theorem Lx {i:Nat} {xs:List PV} (hi:st.h[i]? =some (.list xs)) (h:K (.ref st.h.length) {st with h:=st.h++[.raw (yI 0) [.ref i]]}):PC C (.builtin "iter") [.ref i] st K:=by
 walk_at "T C,st,K,i,xs hi h";walk_at "I B,T,σ,s,vs x hv";cases hv with|cons p r=>
  cases r;refine aE (p) fun a ha qz2=>?_;subst qz2;refine cH (x.list ha hi) fun us m eo r=>?_;refine qg (by decide+kernel) (by decide+kernel) kdk_entry_iter (kdk_args_iter _) ?_;delta Builtin.«iter»;refine ag (m:=someArgs "iter" 1 2 _) (dy (a:=[fv a]) (by first|rfl|kernel_rfl) ?_);refine ag (wpAny_pyIter_list (aN eo) (av ⟨_,rfl,?_⟩));exact aO.new (x.alloc (p:= .raw (yI 0) [.ref i]) rfl ⟨_,b9 _ rfl,[.ref a],⟨a,rfl,rfl⟩, .cons ⟨a,by rw [bh (af.mp ha).1];exact ha,rfl⟩ .nil⟩) x.hr.len h
theorem Hn {i k:Nat} {q:PV} (hi:st.h[i]? =some (.raw (yI k) [q])) (h:K (.ref st.h.length) {st with h:=st.h++[.raw (Ax "method-wrapper" "list_iterator.__next__") [.ref i]]}):GA C "__next__" (.ref i) st K:=fun B T σ s v ex x hv=>by refine aE (hv) fun a ha qz2=>?_;subst qz2;refine nn fun gg=>?_;obtain ⟨o,vs,e,⟨b,rfl,rfl⟩,r⟩:=x.raw ha hi;refine gg ?_;refine Dj e rfl rfl rfl fun t=>?_;refine aO.new ((x.alloc (o:=tF "list_iterator.__next__" (.ref a)) (p:= .raw (Ax "method-wrapper" "list_iterator.__next__") [.ref i]) rfl ⟨_,b9 _ rfl,[.ref a],rfl, .cons ⟨a,?_,rfl⟩ .nil⟩).tok t) x.hr.len h;rw [bh (af.mp ha).1];exact ha
theorem qG {M:pd} {A:jx} {E:ak→az→Prop} {s:az} {pos:Pos} {u:Addr} {cl:String} {env:Env} {Q:ak→az→Prop} {xs:Array ak} (hcl:cl="builtin_function_or_method"∨cl="method-wrapper")
  (ho:s.heap.get? u=some {cls:= .type cl,data:= .fields xs}) (h:bx M A (call (.ref u) []) Q E s):bx M A (callWith pos (.ref u) [] (backTo pos (b0 [] env)) (backToKw pos (ej [] env))) Q E s:=by
 delta callWith;refine ag (cj (evalArgs_nil3 (ag (fk ?_))));refine uY hcl ho (?_:bx M A (call (.ref u) []>>=fun r=>holding [r] point>>=fun _=>pure r) Q E s);exact ag (bc h (fun r s₂ hr=>ag (cj (wpAny_point (av hr)))) fun _ _ x=>x)
inductive Nk (K:PV→St→Prop) (X:St→Prop) (f:PV) (st1:St):Prop
 |mk (u i k l:Nat) (xs:List PV) (h1:f= .ref u) (h2:st1.h[u]? =some (.raw (Ax "method-wrapper" "list_iterator.__next__") [.ref i])) (h3:st1.h[i]? =some (.raw (yI k) [.ref l])) (h4:st1.h[l]? =some (.list xs))
   (h5: ∀p,xs[k]? =some p→K p {st1 with h:=st1.h.set i (.raw (yI (k+1)) [.ref l])}) (h6:xs[k]? =none→X {st1 with h:=st1.h.set i .junk}):Nk K X f st1
theorem Iu {func:dh} {pos:Pos} (hq:C.Still) (hh:C.A.handled=none)
  (h:WE C func st (Nk K X))
  (he:eval (.Call func [] [] pos) C.env=(do callWith pos (←eval func C.env) [] (backTo pos (b0 [] C.env)) (backToKw pos (ej [] C.env))):=by rfl):XE C (.type "StopIteration") kb (.Call func [] [] pos) st K X:=by
 walk_at "T C,st,K,X,kb,func,pos hq hh h he";walk_at "I B,T,σ,s hb x";have qE: ∀{P:ak→az→Prop} e s',C.E e s'→P e s':=fun e s' he=>(hq e s' he).elim;refine Call_ (bc (h _ _ _ _ x) (fun f s1 hzz=>hzz.el fun τ p st1 h1 h2 hzy=>?_) qE) he;obtain ⟨u,i,k,l,xs,hp,hu,hi,hl,hK,hX⟩:=hzy;subst hp;refine aE (h1) fun a ha qz2=>?_;subst qz2;refine fW (h2.raw ha hu) fun o vs e qz3 r=>?_;subst qz3;cases r with|cons r1 r2=>
  cases r2;refine aE (r1) fun b hb' qz2=>?_;subst qz2;refine nn ?_;walk_at "I gg";obtain ⟨o2,vs2,e2,⟨c,rfl,rfl⟩,r2⟩:=h2.raw hb' hi;refine gg ?_;cases r2 with|cons r3 r4=>
   cases r4;refine aE (r3) fun c' hc e3=>?_;cases e3;refine cH (h2.list hc hl) fun us m e4 r5=>?_;refine qG (.inr rfl) e ?_;refine wpAny_call (codeAny_of_tree ?_);show bx _ C.A.in1 (callAny (.ref a) ⟨[],[]⟩) _ _ s1;refine ag (nw e ?_);show bx _ _ (checkBoundCall "list_iterator.__next__" ⟨[.ref b],[]⟩>>=_) _ _ _;refine ag (Dc ?_);refine ag (av (av ?_));have pl:plainId "list_iterator.__next__"=true:=by decide+kernel
   refine ⟨plainId_quiet pl _,codeAny_builtin entry_listiter_next ?_⟩;rw [rn pl];cases hx:xs[k]? with
   |some p=>refine aE (r5.get hx) fun v hv hr=>?_;refine Al ⟨_,e2,rfl,rfl⟩ (aN e4) (x:=v) (by simpa using hv) (fun h' g1 g2=>?_) e2;have z:=h2.upd (p:= .raw (yI (k+1)) [.ref l]) s1.toks hb' g2 ⟨_,g1,[.ref c],⟨c,rfl,rfl⟩, .cons ⟨c,hc,rfl⟩ .nil⟩;exact ⟨τ,p,_,hr,z,hK p hx⟩
   |none=>refine Ec hh (aN e4) (by simpa using r5.none hx) (fun h1 h' e' t g0 g1 g2 g3 g4=>?_) e2;have ho154:=g1;walk_at "E ho154 : o1, g1";have z:=h2.upd (p:= .junk) s1.toks hb' g0 ⟨o1,g1,trivial⟩;have z2:=z.grow (h':=h') s1.toks g2;exact ⟨τ,_,e',false,rfl,z2,⟨z.looseNone g3,_,_,g4,rfl,rfl,by simp,fun _=>rfl, .inl ⟨rfl,rfl⟩⟩,hX hx⟩
end
end
section
open PySem.SeqAt
section
variable {B h':Heap}{C':Cx}{T σ σ':List Addr}{a f:Addr}{s:az}
variable {C:Cx} {st:St} {K:PV→St→Prop} {KF:Fl→St→Prop} {X:St→Prop} {cls:ak} {kb:Bool} {n:Nat}
def Oz (C:Cx) (cls:ak) (kb:Bool) (f:ak) (ps:List PV) (st:St) (K:PV→St→Prop) (X:St→Prop):Prop:= ∀B T σ s vs,HB C B T→Mt C B T σ st s→cF σ ps vs→bx C.M C.A (call f vs) (aO C B T VR σ K) (XR C B T σ cls kb X) s
theorem eD.leave (x:Mt C B T σ st s) (k: ∀b o,s.heap.get? b=some o→h'.get? b=some o) (hp:σ <+: σ') (l:eD C' h' σ' a):eD C B σ' a:=by
 obtain na:s.heap.get? a=none:=by
  cases e:s.heap.get? a with
  |none=>rfl
  |some o=>have:=k a o e;rw [l.nb] at this;cases this
 have y:=x.looseNone na;exact ⟨l.nσ,y.np,y.nf,y.nb⟩
theorem cM.leave {h'':Heap} {t k:Bool} (x:Mt C B T σ st s) (kk: ∀b o,s.heap.get? b=some o→h'.get? b=some o) (hp:σ <+: σ') (h:cM C' h' σ' h'' cls a t k):cM C B σ' h'' cls a t k:=by
 obtain ⟨oe,vs,he,hc,hd,hz,h2,h3⟩:=h.at_;refine ⟨h.lo.leave x kk hp,oe,vs,he,hc,hd,hz,h2,h3.imp id ?_⟩
 rintro ⟨tb,otb,tvs,g1,g2,g3,g4,g5,g6⟩
 exact ⟨tb,otb,tvs,g1,g2,g3.leave x kk hp,g4,g5,g6⟩
theorem Lp {σ1:List Addr} {s1 s3:az} {st1 st3:St} {fd:FuncData} {L:Addr} {vis:List (Str×Nat)} {EE:ak→az→Prop} (x:Mt C B T σ st s) (y:Mt C B T (σ++σ1) st1 s1) (hkeep: ∀b o,s1.heap.get? b=some o→h'.get? b=some o)
  (hfr: ∀a,s1.heap.objs.size≤a→s1.heap.get? a=none) (hpabove: ∀p∈(callEnvC fd L f).locals::(callEnvC fd L f).cells.map (·.2),s1.heap.objs.size≤p)
  (z:Mt (C.fn fd L f vis EE) h' (σ++σ1) (σ++σ1) st3 s3) (hL:L=s1.heap.objs.size) {e:ak} {s2:az}
  (he:XR (C.fn fd L f vis EE) h' (σ++σ1) (σ++σ1) cls kb (fun st2=>X ⟨st1.v,st2.h⟩) e s2):
  bx C.M (C.A.deeper (callEnvC fd L f)) (leaving (callEnvC fd L f) e) (fun _ s''=>XR C B T σ cls kb X e s'') (fun e' s''=>XR C B T σ cls kb X e' s'') s2:=by
 obtain ⟨τ2,st2,a,t,rfl,r2,r3,r4⟩:=he;refine cH (r2.head eZ) fun L' outer hfrm hf=>?_;delta leaving;refine ag (jQ (C:=C.fn fd L f vis EE) r2 r3 hfrm rfl hf fun h1 m1 e1=>?_);refine eH (C:=C.fn fd L f vis EE) (s:={s2 with heap:=h1}) m1 e1 fun h2 m2 e2=>?_;have hfsE: ∀q,q∈(C.fn fd L f vis EE).fs↔q=L∨q∈C.fs:=fun q=>by delta Cx.fn;rw [gS (f:=L) x.ok.frs rfl,ar]
 have back:=y.back m2 (fun b o e _=>hkeep b o e) (fun a ha=>hfr a (hpabove a (bZ ha))) (fun q hq=>((hfsE q).mp hq).elim (fun e=> .inr (by rw [e,hL];exact hfr _ (ay _))) .inl) (fun q hq=>(hfsE q).mpr (.inr hq)) rfl rfl rfl;have e3:=e2.leave y hkeep (dj _ _);rw [aa] at back e3;exact ⟨_,_,a,true,rfl,back,e3,r4⟩
theorem Ke {params:Arguments} {body:List iy} {scope:im} {dV:ak} {ps:List PV} (locals:List Str) (F:Cc C.K f params body scope dV) (hroom:C.A.depth<recursionLimit) (hh:C.A.handled=none)
  (bind: ∀name qual kV doc pm an cdv ct,PB C (fnOf name qual params body scope dV kV doc pm an cdv ct) ps st fun bs st1=>
   (bs.map (·.1)++locals).Nodup∧(∀x∈bs.map (·.1),scope.names.lookup x=some .local∨(scope.names.lookup x=some .cell∧ ∀n,((cellsFrom n scope.names []).lookup x).isSome=true))∧
   ∀L,XS (C.fn (fnOf name qual params body scope dV kV doc pm an cdv ct) L f (iM (bs.map (·.1)++locals)) fun _ _=>False) cls kb body ⟨bs.map (fun b=>some b.2)++locals.map (fun _=>none),st1.h⟩ (fun fl st2=>K (iL fl) ⟨st1.v,st2.h⟩) fun st2=>X ⟨st1.v,st2.h⟩)
  (hnc:(bD scope).Nodup:=by decide+kernel) (hco:scope.isCoroutine=false:=by rfl) (hgen:scope.isGenerator=false:=by rfl) (hk:scope.kind= .function:=by rfl):Oz C cls kb (.ref f) ps st K X:=fun B T σ s vs hb x hv=>wpAny_call<|
 yZ (Bd:=fun C' st' K' st1=>XS C' cls kb body st' K' fun st2=>X ⟨st1.v,st2.h⟩) (EI:=fun C' st1 h' σ'=>XR C' h' σ' σ' cls kb fun st2=>X ⟨st1.v,st2.h⟩) locals F hroom x hv bind
  (fun _ _ _ _ _ _ _ _ _ h z=>h _ _ _ _ (fun v hv=>by have hv:C.A.handled=some v:=hv;rw [hh] at hv;cases hv) z)
  (fun _ _ _ _ _ _ _ _ _ _ _ y hkeep hfr hpabove z hL he=>Lp x y hkeep hfr hpabove z hL he) hnc hco hgen hk
end
end
section
open PySem.SeqAt
abbrev Qo:List ak:=[.type "ValueError", .type "Exception", .type "BaseException", .type "object"]
inductive Dl (K:Frag):Prop
 |mk (nm q N bs hdct sn sub ab col dd k0 k1 k2 k3 k5 oN es ep) (h1:K.lookup 120=some (excClassObj nm q 120 N bs Qo hdct sn sub ab col dd k0 k1 k2 k3 k5 "ValueError.__new__"))
  (h2:K.lookup N=some oN) (h3:oN.data= .dict es ep) (h4:StrKeys es) (h5:nsFind es "__init__"=none):Dl K
structure uZ (K:Frag):Prop where
 obj:Dl K
 g:fB K "CycleError" (.ref 120)
section
variable {e:dh}{pos:Pos}
variable {C:Cx} {st:St} {K:PV→St→Prop} {KF:Fl→St→Prop} {X:St→Prop} {cls:ak} {kb:Bool} {n:Nat}
theorem vN (Y:uZ C.K) (h:K (.glob (.ref 120)) st) (hx:C.env.kindOf ("CycleError":Str)=some .globalImplicit:=by rfl):WE C (.Name "CycleError" pos) st K:=wK Y.g h hx (by decide)
theorem Aa (h:WE C e st K):WE C (.JoinedStr [e] pos) st K:=fun B T σ s x=>JoinedStr_one (h B T σ s x)
theorem Eb {np cpos:Pos} {rest:List dh} (Y:uZ C.K) (hq:C.Still) (hh:C.A.handled=none) (hx:C.env.kindOf ("CycleError":Str)=some .globalImplicit)
  (h:WA C cpos (e::rest) st fun ps st1=>ps.length≤big∧X st1) (he:b0 (e::rest) C.env=(false,eval e C.env)::b0 rest C.env:=by rfl) (hp:(backTo cpos (b0 (e::rest) C.env)).any (·.1)=false:=by rfl):
  X1 C (.ref 120) kb (.Raise (some (.Call (.Name "CycleError" np) (e::rest) [] cpos)) none pos) st KF X:=fun B T σ s hb x=>by
 have qE: ∀{P:ak→az→Prop} e s',C.E e s'→P e s':=fun e s' he=>(hq e s' he).elim;refine nn fun gg=>?_;obtain ⟨nm,q,N,bs,hdct,sn,sub,ab,col,dd,k0,k1,k2,k3,k5,oN,es,ep,hC,hN,hd,hS,hi⟩:=Y.obj;refine gg ?_;refine wpAny_Raise_call_sub PySem.F.excBase_ValueError (C:=120) (nm:=nm) (q:=q) (N:=N) (bs:=bs) (bm:=Qo) (hdct:=hdct) (sn:=sn) (sub:=sub) (ab:=ab) (col:=col) (dd:=dd) (k0:=k0) (k1:=k1) (k2:=k2) (k3:=k3) (k5:=k5) (mN:=nsFind es) hh hp hi ?_;refine bc (vN (K:=fun p st'=>p= .glob (.ref 120)∧st'=st) Y ⟨rfl,rfl⟩ hx _ _ _ _ x) (fun f s1 hrz=>hrz.el2 fun τ p st1 h1 h2 hp1 hp2=>?_) qE;subst hp1 hp2;cases h1;refine ⟨rfl,?_⟩;rw [he];refine evalArgs_plain ?_;have h':=h B T (σ++τ) s1 h2;rw [he] at h';refine bc h' (fun vs s2 hrz=>hrz.el2 fun τ2 ps st2 k1 k2 k3 k4=>?_) qE;have X2:=k2.topNow.KX;refine ⟨rfl,by show vs.length≤_;rw [k1.length];exact bF k3,X2 _ _ hC,⟨oN,es,ep,X2 _ _ hN,hd,hS,fun _=>rfl⟩,fun h' e hm=>?_⟩;refine nn fun gg=>?_;obtain ⟨t,ht,_,_⟩:=hm.there;refine gg ?_;rw [aa] at k2;exact ⟨_,st2,e,false,rfl,k2.grow s2.toks hm.keeps,⟨k2.looseNone hm.new,_,_,ht,rfl,rfl,by simp,fun _=>rfl, .inl ⟨rfl,rfl⟩⟩,k4⟩
theorem Br {o:dh} {name:Str} {apos:Pos} {f:Addr} {j:Nat} (S:KnC C.K) (M:gX C.K name f j) (hq:C.Still)
  (h:WE C o st fun p st1=>fM p st1.h name∧Oz C cls kb (.ref f) [p] st1 K X)
  (hbase:ij o name C.env (eval o C.env)=eval o C.env:=by kernel_rfl) (hline:(apos.endLine==pos.line)=true:=by rfl):XE C cls kb (.Call (.Attribute o name apos) [] [] pos) st K X:=fun B T σ s hb x=>by
 have qE: ∀{P:ak→az→Prop} e s',C.E e s'→P e s':=fun e s' he=>(hq e s' he).elim;refine iD hbase rfl hline (bc (h _ _ _ _ x) (fun v s1 hzz pl=>hzz.el fun τ p st1 h1 h2 hzy=>?_) qE);obtain ⟨h3,h4⟩:=hzy;refine bc (Mc (Q:=fun fx s'=>fx=(.ref f,[v])∧s'=s1) S M h2 h3 h1 ⟨rfl,rfl⟩) (fun fx s' hfx=>?_) qE;obtain ⟨rfl,rfl⟩:=hfx;refine callWith_K0 h2.topNow.KX M.2.2.1 ?_;exact bc (h4 _ _ _ _ [v] hb h2 (.cons h1 .nil)) (fun _ _ r=>r.up) fun _ _ e=>e.up
theorem Ir (h:XE C cls kb e st (fun _ st1=>KF .next st1) X) (hi:interactive C.env=false:=by rfl) (hs:swapsWith e none pos.line C.env=pure false:=by rfl):X1 C cls kb (.Expr e pos) st KF X:=fun B T σ s hb x=>
 wpAny_Expr_any (go (h _ _ _ _ hb x) fun v s1 τ p st1 h1 h2 h3=>⟨τ, .next,st1,rfl,h2,h3⟩) hi hs
theorem Kx {body suite:List iy} {b₀:iy} {hpos pos np:Pos} (Y:uZ C.K) (hs:C.Still) (hh:C.A.handled=none) (hH:C.Head) (hx0:C.env.kindOf ("CycleError":Str)=some .globalImplicit)
  (h:XS C (.ref 120) false body st KF X) (hx: ∀v st1,X st1→WS (C.hd v) (b₀::suite) st1 KF):
  W1 C (.Try body [.ExceptHandler (some (.Name "CycleError" np)) none (b₀::suite) hpos] [] [] pos) st KF:=by
 walk_at "T C,st,KF,X,body,suite,b₀,hpos,pos,np Y hs hh hH hx0 h hx";walk_at "I B,T,σ,s x";refine cH (x.head hH) fun L outer hfr hf=>?_;obtain ⟨nm,q,N,bs,hdct,sn,sub,ab,col,dd,k0,k1,k2,k3,k5,oN,es,ep,hC,hN,hd,hS,hi⟩:=Y.obj;obtain hb:HB C B T:=fun v hv=>by rw [hh] at hv;cases hv
 refine wpAny_Try_except (bc (h B T σ s hb x) (fun f s1 hrz=>hrz.el fun τ fl st1 h1 h2 h3=>?_) (fun e s1 he=>?_))
 ·cases fl with
  |next=>cases h1;exact wpAny_execs_nil ⟨τ, .next,st1,rfl,h2,h3⟩
  |brk=>cases h1;exact ⟨τ, .brk,st1,rfl,h2,h3⟩
  |cont=>cases h1;exact ⟨τ, .cont,st1,rfl,h2,h3⟩
  |ret p=>obtain ⟨v,rfl,h4⟩:=h1;exact ⟨τ, .ret p,st1,⟨v,rfl,h4⟩,h2,h3⟩
 ·obtain ⟨τ,st1,a,t',rfl,m,ex,hX⟩:=he
  refine jQ m ex hfr rfl hf fun h' m1 e1=>?_;refine eH (s:={s1 with heap:=h'}) m1 e1 fun h2 m2 e2=>?_;have nE: ∀{P:ak→az→Prop} e s',(C.hd (.ref a)).E e s'→P e s':=fun e s' he=>(hs e s' he).elim;refine wpAny_handleBy_cons (codeAny_handlers_test (bc (vN (C:=C.hd (.ref a)) (K:=fun p st'=>p= .glob (.ref 120)∧st'=st1) Y ⟨rfl,rfl⟩ hx0 h2 (σ++τ) (σ++τ) {s1 with heap:=h2} (m2.rebase.hd _)) (fun c s3 hrz=>hrz.el2 fun τ3 p st3 r1 m3 rp rs=>?_) nE)) (by intro q;cases q);subst rp rs;cases r1;have m3:=m3.unhd;have e3:=cM.stay m2 m3 e2;have m4:=m2.trans m3;refine nn ?_;walk_at "I gg";obtain ⟨oe,vs,he,hc,_⟩:=id e3.at_;refine gg ?_;obtain HC:=m4.topNow.KX _ _ hC;refine nn ?_;walk_at "I gg";obtain ⟨hh3,g3,d3,tk3,os3⟩:=s3;refine gg ?_;refine wpAny_excMatches_sub_self HC he hc (by decide) (codeAny_handlers_suite ?_);refine eH m4 e3 fun h5 m5 e5=>?_;refine bc (hx (.ref a) st3 hX h5 (σ++τ++τ3) (σ++τ++τ3) _ (m5.rebase.hd _)) (fun f s6 hrz=>hrz.el fun τ6 fl st6 q1 q2 q3=>?_) nE;have q2:=m5.trans q2.unhd;rw [aa,aa] at q2 q1;exact ⟨_,fl,st6,q1,q2,q3⟩
end
end
section
section
variable {C:Cx} {st:St} {K:PV→St→Prop} {KB:Bool→St→Prop} {KF:Fl→St→Prop}
theorem Ds {i:Nat} {xs:List PV} (hq:C.Quiet) (hp:st.h[i]? =some (.list xs)): ∀B T σ s v (Q:ak→az→Prop),Mt C B T σ st s→VR σ (.ref i) v→
 (∀o R,o.isFreed=false→It C σ s.heap.objs.size (iS i) R→(∀k o,R k o→o.cls= .type "list_iterator"∧ ∃l j,o.data= .fields #[.ref l, .int (j:Nat) 0])→R 0 o→Q (.ref s.heap.objs.size) {s with heap:=s.heap.push o})→bx C.M C.A (pyIter v) Q C.E s:=fun B T σ s v Q x hv h=>by
 obtain ⟨a,ha,rfl⟩:=hv;refine nn fun gg=>?_;obtain ⟨vs,n,e,_⟩:=x.list ha hp;refine gg ?_;refine wpAny_pyIter_list (aN e) (h _ (fun k o=>o.cls= .type "list_iterator"∧o.data= .fields #[.ref a, .int k 0]) rfl ⟨?_,?_,?_⟩ (fun k o h=>⟨h.1,a,k,h.2⟩) ⟨rfl,rfl⟩)
 ·rintro k σ' H' s' p o Q E x' hpre ho hR hn hQ
  obtain ⟨xs',h1,h2⟩:=dU hn;refine nn fun gg=>?_;obtain ⟨us,m,e',r⟩:=x'.list (dE hpre ha) h1;refine gg ?_;obtain ⟨u,hu,hr⟩:=r.get h2;refine wpAny_pyNext_list_item ⟨_,ho,hR.1,hR.2⟩ (aN e') (x:=u) (by simpa using hu) fun h' hit hs=>?_;refine nn fun gg=>?_;obtain ⟨o',h3,h4,h5⟩:=hit;refine gg ?_;exact hQ u h' _ o' hr hs.extBut h3 ⟨h4,h5⟩
 ·rintro k σ' H' s' o Q E x' hpre ho hR hn hQ
  obtain ⟨xs',h1,h2⟩:=dU hn;refine nn fun gg=>?_;obtain ⟨us,m,e',r⟩:=x'.list (dE hpre ha) h1;refine gg ?_;exact wpAny_pyNext_list_end hq.1 ⟨_,ho,hR.1,hR.2⟩ (aN e') (by simpa using r.none h2) fun h' hx=>hQ h' _ hx
 ·rintro k s' o Q E ho hR hQ
  exact wpAny_pyIter_listiter ⟨_,ho,hR.1,hR.2⟩ hQ
theorem yM {t1 t2:dh} {k i:Nat} {pos:Pos} {p q:PV} {KS:St→Prop} (hh:C.A.handled=none) (hi:st.h[i]? =some (.tuple [p,q])) (h:PA C t1 p st fun st1=>PA C t2 q st1 KS)
  (he:assignEach [t1,t2] C.env=[(false,assign t1 C.env),(false,assign t2 C.env)]:=by rfl):PA C (.Tuple [t1,t2] k pos) (.ref i) st KS:=by
 walk_at "T C,st,t1,t2,k,i,pos,p,q,KS hh hi h he";walk_at "I B,T,σ,s,v x hv";obtain ⟨a,ha,rfl⟩:=hv;refine nn fun gg=>?_;obtain ⟨us,m,eo,r⟩:=x.tuple ha hi;refine gg ?_;cases r with|cons r1 r2=>cases r2 with|cons r2 r3=>
  cases r3;refine wpAny_assign_Tuple hh (eW eo) (by rw [he];rfl) (by rw [he];rfl) fun h' hx=>?_;obtain y:=x.grow (h':=h') s.toks fun b o e=>hx b o (ez (dc e)) e;rw [he];show bx _ _ (assignInOrder [assign t1 C.env,assign t2 C.env] [_,_]) _ _ _;refine ag (cj (go (h B T σ _ _ y r1) fun _ s1 τ _ st1 _ h2 h3=>?_));refine ag (cj (go (h3 B T (σ++τ) _ _ h2 r2.mono) fun _ s2 τ2 _ st2 _ k2 k3=>?_));rw [aa] at k2;exact av ⟨_,(),st2,trivial,k2,k3⟩
inductive Ef (t:dh) (body:List iy) (C:Cx) (KF:Fl→St→Prop) (p:PV) (st1:St):Prop
 |mk (li:Nat) (xs:List PV):p= .ref li→st1.h[li]? =some (.list xs)→ ∀(Inv:Nat→St→Prop) (N:Nat),Inv 0 st1→(∀k st2 q,Inv k st2→iS li k st2.h=some (some q)→k<N∧ ∃ti,q= .ref ti)→
   (∀k st2 q,Inv k st2→iS li k st2.h=some (some q)→PA C t q st2 fun st3=>WS C body st3 (Dq C st1.h.length (Inv (k+1)) KF))→
   (∀k st2,Inv k st2→iS li k st2.h≠none)→(∀k st2,Inv k st2→iS li k st2.h=some none→KF .next st2)→Ef t body C KF p st1
theorem Kt {elts:List dh} {ek:Nat} {ep:Pos} {iter:dh} {body:List iy} {pos:Pos} (hq:C.Quiet)
  (h:WE C iter st (Ef (.Tuple elts ek ep) body C KF))
  (hs: ∀env x,dz iter env x=pure x:=by intro _ _;rfl):
  W1 C (.For (.Tuple elts ek ep) iter body [] pos) st KF:=fun B T σ s x=>by
 refine wpAny_For (bc (h _ _ _ _ x) (fun v s1 hzz=>hzz.el fun τ1 p st1 h1 h2 hzy=>?_) fun e s' he=>(hq.2 e s' he).elim) (hs _);obtain ⟨li,xs,hp,hli,Inv,N,hI0,hN,turn,ok,done⟩:=hzy;subst hp;refine bc (Ds hq hli _ _ _ _ _ _ h2 h1 fun o R hf hIt hLi hR=>?_) (fun _ _ q=>q) fun e s' he=>(hq.2 e s' he).elim;refine vP hq h2 hf hIt hR Inv N hI0 (fun k st2 q a b=>(hN k st2 q a b).1) turn ok done fun k st2 q v s' o' Q E' hI hn hv ho' hR' hQ=>?_;obtain ⟨ti,rfl⟩:=(hN k st2 q hI hn).2;obtain ⟨σ',T',_,rfl⟩:=hv;obtain ⟨hc1,l1',j1',hd1⟩:=hLi _ _ hR';exact wpAny_letOwnedTupleGo_listiter ⟨o',ho',hc1,hd1⟩ hQ
end
end
section
section
variable {func:dh}{np pos:Pos}
theorem nJ (l:Addr) (items:Array ak) (hfit:(items.size:Int)<2^63):
  Meets (Builtin.«bool.__new__» ⟨[.type "bool", .ref l],[]⟩) (fun A R s=>s.heap.IsList l items∧ ∀t,R (.ok (.ret (.bool (!items.isEmpty)))) {s with toks:=t}):=
 Meets.of_wp fun prog w A R s hh=>by obtain ⟨hl,hs⟩:=hh;obtain f1:=PySem.F.conv_sub_bool;delta Builtin.«bool.__new__»;refine ag (m:=isType (.type "bool")) (av ?_);refine ag (dy f1 ?_);refine ag (dy (a:=[fv l]) (by first|rfl|kernel_rfl) ?_);dsimp only;refine ag (wpAny_truthy_list hl hfit (av ⟨_,rfl,hs _⟩))
variable {C:Cx} {st:St} {K:PV→St→Prop} {KF:Fl→St→Prop} {n:Nat}
theorem Gr {i:Nat} {xs:List PV} (hi:st.h[i]? =some (.list xs)) (hz:xs.length≤big) (h:K (.bool (!xs.isEmpty)) st):PC C (.type "bool") [.ref i] st K:=by
 walk_at "T C,st,K,i,xs hi hz h";walk_at "I B,T,σ,s,vs x hv";cases hv with|cons p r=>
  cases r;obtain ⟨a,ha,rfl⟩:=p;refine nn fun gg=>?_;obtain ⟨us,m,eo,r⟩:=x.list ha hi;refine gg ?_;have hs:us.toArray.size=xs.length:=by rw [cb,r.length]
  have e:(!us.toArray.isEmpty)= !xs.isEmpty:=by cases r<;>simp
  exact call_bool_1 (nJ a us.toArray (by rw [hs];exact qY hz)) ⟨aN eo,fun t=>⟨rfl,by rw [e];exact aO.bool (x.tok t) h⟩⟩
theorem Da {a:Addr} (hk:fy C.K (.ref a)=true) (h:WE C func st fun f st1=>f= .glob (.ref a)∧PC C (.ref a) [] st1 K)
  (he:eval (.Call func [] [] pos) C.env=(do callWith pos (←eval func C.env) [] (backTo pos (b0 [] C.env)) (backToKw pos (ej [] C.env))):=by rfl):WE C (.Call func [] [] pos) st K:=fun B T σ s x=>by
 refine Call_ (bc (h _ _ _ _ x) (fun f s1 hrz=>hrz.el2 fun τ p st1 h1 h2 hp1 h3=>?_) fun _ _ e=>e) he;subst hp1;cases h1;refine callWith_K0 h2.topNow.KX hk ?_;exact gH (h3 _ _ _ _ [] h2 .nil)
theorem Dx {id:String} (h:WE C func st fun f st1=>f= .glob (.type id)∧PC C (.type id) [] st1 K)
  (he:eval (.Call func [] [] pos) C.env=(do callWith pos (←eval func C.env) [] (backTo pos (b0 [] C.env)) (backToKw pos (ej [] C.env))):=by rfl):WE C (.Call func [] [] pos) st K:=fun B T σ s x=>by
 refine Call_ (bc (h _ _ _ _ x) (fun f s1 hrz=>hrz.el2 fun τ p st1 h1 h2 hp1 h3=>?_) fun _ _ e=>e) he;subst hp1;cases h1;refine callWith_of rfl (fun h X=>⟨.machine, .inr (.inl rfl),Looks.now⟩) (evalArgs_nil3 ⟨h2.topNow.KX,?_⟩);exact gH (h3 _ _ _ _ [] h2 .nil)
theorem cl_Sorter (S:bS C n) (h:PC C (.ref 202) [] st K) (hx:C.env.kindOf ("TopologicalSorter":Str)=some .globalImplicit:=by rfl)
  (he:eval (.Call (.Name ("TopologicalSorter":Str) np) [] [] pos) C.env=(do callWith pos (←eval (.Name ("TopologicalSorter":Str) np) C.env) [] (backTo pos (b0 [] C.env)) (backToKw pos (ej [] C.env))):=by rfl):WE C (.Call (.Name "TopologicalSorter" np) [] [] pos) st K:=Da S.kn.c_TopologicalSorter.2 (e_G S rfl ⟨rfl,h⟩ hx) he
theorem cl_set0 (S:bS C n) (h:PC C (.type "set") [] st K) (hx:C.env.kindOf ("set":Str)=some .globalImplicit:=by rfl)
  (he:eval (.Call (.Name ("set":Str) np) [] [] pos) C.env=(do callWith pos (←eval (.Name ("set":Str) np) C.env) [] (backTo pos (b0 [] C.env)) (backToKw pos (ej [] C.env))):=by rfl):WE C (.Call (.Name "set" np) [] [] pos) st K:=Dx (e_B S rfl ⟨rfl,h⟩ hx) he
end
end
section
section
variable {C:Cx} {st:St} {K:PV→St→Prop} {n:Nat}
theorem Er {elt:dh} {scope:im} {pos:Pos} {target iter target2 iter2:dh} (own:List Str) (S:bS C n) (hq:C.Quiet) (n₀:Nat) (hb:gJ C scope own n₀=true)
  (h:tJ C iter st fun nx st1=>st1.v.length=n₀∧ ∃(items:List PV) (f:PV→List PV),(items.flatMap f).length≤big∧(∀k t,nx k (st1.h++t)=some items[k]?)∧
   (∀L,bS (C.blk scope own n₀ L) n→(C.blk scope own n₀ L).Quiet→ ∀q acc,q∈items→PA (C.blk scope own n₀ L) target q ⟨st1.v++own.map (fun _=>none),st1.h++[.list acc]⟩ fun st3=>
    tJ (C.blk scope own n₀ L) iter2 st3 fun nx2 st4=>cU (st1.v++own.map (fun _=>none)) (st1.h++[.list acc]) st4∧ ∃(its:List PV) (g:PV→PV),f q=its.map g∧(∀x∈f q,x.atom)∧
     (∀k acc',nx2 k (st4.h.set st1.h.length (.list acc'))=some its[k]?)∧
     ∀q2 acc',q2∈its→PA (C.blk scope own n₀ L) target2 q2 ⟨st4.v,st4.h.set st1.h.length (.list acc')⟩ fun st5=>WE (C.blk scope own n₀ L) elt st5 fun p st6=>p=g q2∧p.atom∧cU st4.v (st4.h.set st1.h.length (.list acc')) st6)∧
   K (.ref st1.h.length) ⟨st1.v,st1.h++[.list (items.flatMap f)]⟩)
  (hs: ∀env x,dz iter env x=pure x:=by intro _ _;rfl) (ht: ∀it v,d9 target it v=pure ():=by intro _ _;rfl)
  (hs2: ∀env x,dz iter2 env x=pure x:=by intro _ _;rfl) (ht2: ∀it v,d9 target2 it v=pure ():=by intro _ _;rfl):
  WE C (.ListComp elt [⟨target,iter,[],0⟩,⟨target2,iter2,[],0⟩] scope pos) st K:=by
 walk_at "T C,st,K,n,elt,scope,pos,target,iter,target2,iter2,own S hq n₀, hb h hs ht hs2 ht2";refine lW own (Bu _ _ _ _ _ _ _ _ _) rfl S hq n₀ hb (h.mono fun nx st1 hzz=>?_) hs ht;obtain ⟨hv,items,f,hz,hnx,turn,hK⟩:=hzz;obtain hsub: ∀(k:Nat) (q:PV),items[k]? =some q→((items.take k).flatMap f).length+(f q).length≤big:=by
  intro k q hq;obtain ho23:=af.mp hq;walk_at "E ho23 : hk e";have e1:(items.take k).flatMap f++f q=(items.take (k+1)).flatMap f:=by rw [d7,hq,ey];simp
  have e2:(items.take (k+1)).flatMap f++(items.drop (k+1)).flatMap f=items.flatMap f:=by rw [←ey,fq]
  have:=congrArg gt e2;rw [←e1] at this;simp only [aj] at this;exact aW 0x486a106432508a2a841 32801 [_,_,_,_,_] hz this
 refine ⟨hv,fun k s=>s=⟨st1.v++own.map (fun _=>none),st1.h++[.list ((items.take k).flatMap f)]⟩,items.length,by rfl,?_,?_,?_,?_⟩
 ·rintro k _ q rfl hq
  rw [hnx] at hq;exact (af.mp (ba hq)).1
 ·rintro L SB QB k _ q rfl hq
  rw [hnx] at hq;obtain ⟨hk,hq'⟩:=af.mp (ba hq);have hT:(items.take (k+1)).flatMap f=(items.take k).flatMap f++f q:=by rw [d7,ba hq,ey];simp
  obtain hzk:=hsub k q (ba hq);refine PA.wf ?_;walk_at "I W";intro B T σ s v y hvr;refine go (turn L SB QB q _ (hq'▸cg hk) B T σ s v y hvr) fun _ s1 τ _ st3 _ h2 h3=>⟨τ,(),st3,trivial,h2,?_⟩;refine wi_nil ?_;rw [if_pos rfl];refine Ih (Bi _ _ _ _ _ _ _ _ _) rfl QB (h3.mono fun nx2 st4 hzz=>?_) hs2 ht2;obtain ⟨⟨kv,J,kh⟩,its,g,hf,hat,hnx2,turn2⟩:=hzz;have hset: ∀l,st4.h.set st1.h.length (.list l)=st1.h++[.list l]++J:=by intro l;rw [kh,aa,cq,cS,aa];rfl
  refine ⟨fun j s=>s=⟨st4.v,st4.h.set st1.h.length (.list ((items.take k).flatMap f++(its.take j).map g))⟩,its.length,?_,?_,?_,?_,?_⟩
  ·cases st4
   refine congrArg (St.mk _) ?_;rw [hset,jg,gi,be];exact kh
  ·rintro j _ q2 rfl hq2
   rw [hnx2] at hq2;exact (af.mp (ba hq2)).1
  ·rintro j _ q2 rfl hq2
   rw [hnx2] at hq2;obtain ⟨hj,hq2'⟩:=af.mp (ba hq2);have hT2:(its.take (j+1)).map g=(its.take j).map g++[g q2]:=by rw [d7,ba hq2,bv];rfl
   refine PA.wf ?_;walk_at "I W2";intro B T σ s v y hvr;refine go (turn2 q2 _ (hq2'▸cg hj) B T σ s v y hvr) fun _ s1 τ _ st5 _ g2 g3=>⟨τ,(),st5,trivial,g2,?_⟩;refine wi_nil ?_;rw [if_pos rfl];refine nS QB (g3.mono fun p st6 hzz=>?_);obtain ⟨e1,e2,kv2,J2,kh2⟩:=hzz;rw [hset] at kh2 W2;obtain hl2:((its.take j).map g).length≤(f q).length:=by rw [hf,bl,bl,gy];exact pk _ _
   refine ⟨_,by rw [kh2,aa,aa,eh];exact cJ,by rw [aj];exact aW 0x121a84190d440c882 1057 [_,_,_,_] hzk hl2,?_⟩;have W':=W2.set (a:=st1.h.length) (xs:=(items.take k).flatMap f++(its.take (j+1)).map g) (by
    intro x hx;rw [hT2, ←aa] at hx;rcases bq.mp hx with hx|hx
    ·exact W2.h (.list ((items.take k).flatMap f++(its.take j).map g)) (by simp) x hx
    ·rw [bk] at hx;rw [hx, ←e1];exact e2.bd _)
   have e4:(st1.h++[PO.list ((items.take k).flatMap f++(its.take j).map g)]++J).set st1.h.length (.list ((items.take k).flatMap f++(its.take (j+1)).map g))=st1.h++[.list ((items.take k).flatMap f++(its.take (j+1)).map g)]++J:=by rw [aa,cq,cS,aa];rfl
   rw [e4] at W';refine Gc.back (J:=J2) W' (by rw [kh];simp) ?_ kv2 (by show _=_;rw [hset]);dsimp only;rw [kh2,hT2, ←e1, ←aa];simp only [aa,cq,fp];rw [cS]
  ·rintro j _ rfl;rw [hnx2];simp
  ·rintro j _ rfl hq2
   rw [hnx2] at hq2;obtain hj:=bz.mp (ba hq2);rw [cf hj, ←hf, ←hT,hset];have W':=W.set (a:=st1.h.length) (xs:=(items.take (k+1)).flatMap f) (by
    intro x hx;rw [hT] at hx;rcases bq.mp hx with hx|hx
    ·exact W.h (.list ((items.take k).flatMap f)) (by simp) x hx
    ·exact (hat x hx).bd _)
   obtain e4:(st1.h++[PO.list ((items.take k).flatMap f)]).set st1.h.length (.list ((items.take (k+1)).flatMap f))=st1.h++[.list ((items.take (k+1)).flatMap f)]:=cS;rw [e4] at W';exact Gc.back (J:=J) W' (by simp) rfl kv rfl
 ·rintro k _ rfl;rw [hnx];simp
 ·rintro k _ rfl hq
  rw [hnx] at hq;obtain hk:=bz.mp (ba hq);rw [cf hk];exact hK
end
end
section
section
variable {C:Cx} {st:St} {n:Nat}
theorem Ah {KF:Fl→St→Prop} {y:Str} {i:Nat} {p' spos:Pos} {elt:dh} {scope:im} {pos:Pos} {target iter:dh} {ifs:List dh} (own:List Str) (S:bS C n) (hq:C.Quiet) (n₀:Nat) (hb:gJ C scope own n₀=true)
  (h:tJ C iter st (tM n (fun l p=>p.bd l) elt target ifs scope own n₀ C (fun l v H=>KF .next ⟨v.set i (some (.ref l)),H⟩)))
  (hs: ∀env x,dz iter env x=pure x:=by intro _ _;rfl) (ht: ∀it v,d9 target it v=pure ():=by intro _ _;rfl)
  (hx:C.vis.lookup y=some i) (hk:C.env.kindOf y=some .local) (hsw:swapsWith (.ListComp elt [⟨target,iter,ifs,0⟩] scope pos) (some (.Name y p')) spos.line C.env=pure true):
  W1 C (.Assign [.Name y p'] (.ListComp elt [⟨target,iter,ifs,0⟩] scope pos) spos) st KF:=
 yP own (gV _ _ _ _ _ _) rfl S hq n₀ hb (h.mono fun nx st1 hzz=>by
  obtain ⟨hv,items,f,hz,hnx,turn,hK⟩:=hzz;exact
  iF (A:=fun l p=>p.bd l) (fun _ x=>x) hv hz hnx turn hK) hs ht hx hk hsw
end
end
section
def Mo {A:Type} (K κ:A→St→Prop):Prop:= ∀f s,K f s→κ f s
section
variable {K:Fl→St→Prop}{b:List iy}{e t:dh}{p:PV}
variable {C:Cx} {st:St}
theorem Rx (h: ∀κ:Fl→St→Prop,Mo K κ→WS C b st κ):WS C b st K:=h K fun _ _ x=>x
theorem Rv {b:iy} (h: ∀κ:Fl→St→Prop,Mo K κ→W1 C b st κ):W1 C b st K:=h K fun _ _ x=>x
theorem Jq (h: ∀κ:Fl→St→Prop,Mo K κ→PA C t p st fun s=>WS C b s κ):PA C t p st fun s=>WS C b s K:=h K fun _ _ x=>x
theorem Ox {o:List iy} {K':Fl→St→Prop} (h: ∀κ:Fl→St→Prop,Mo K κ→WT C t st fun c s=>if c=true then WS C b s κ else WS C o s K'):WT C t st fun c s=>if c=true then WS C b s K else WS C o s K':=h K fun _ _ x=>x
theorem Hv {ifs:List dh} {K:PV→St→Prop} {K':St→Prop} (h: ∀κ:PV→St→Prop,Mo K κ→ ∀κ':St→Prop,(∀s,K' s→κ' s)→PA C t p st fun s=>WI C ifs s fun ok s=>if ok=true then WE C e s κ else κ' s):PA C t p st fun s=>WI C ifs s fun ok s=>if ok=true then WE C e s K else K' s:=h K (fun _ _ x=>x) K' fun _ x=>x
theorem Pl {K:PV→St→Prop} (h: ∀κ:PV→St→Prop,Mo K κ→PA C t p st fun s=>WE C e s κ):PA C t p st fun s=>WE C e s K:=h K fun _ _ x=>x
end
end
section
section
variable {k:Nat}
variable {C:Cx} {st:St} {K:PV→St→Prop} {n:Nat}
theorem iN (S:bS C (n+1)) (hk:k<256) (h:K (.bool (dO k != lI k)) st):PC C (.ref 44) [.int k] st K:=by refine jO S ["octet"] [] S.kn.f_header_check.2.2 rfl (fun _ _ _ _ _ _ _ _=>iK fun v=>rfl) (by decide) (by decide) fun zz SD=>?_;refine s_cons ?_;ext;refine rJ (by exact bi _) (by lia) ?_;ext;refine wH SD.kn.l_quopri_header_map.2 hk ?_;ext;exact h
theorem kI (S:bS C (n+1)) (hk:k<256) (h:K (.bool (dO k != cW k)) st):PC C (.ref 51) [.int k] st K:=by refine jO S ["octet"] [] S.kn.f_body_check.2.2 rfl (fun _ _ _ _ _ _ _ _=>iK fun v=>rfl) (by decide) (by decide) fun zz SD=>?_;refine s_cons ?_;ext;refine rJ (by exact bi _) (by lia) ?_;ext;refine wH SD.kn.l_quopri_body_map.2 hk ?_;ext;exact h
theorem vZ (S:bS C (n+1)) (hk:k<256) (h:K (.str (tH k)) st):PC C (.ref 65) [.str (dO k)] st K:=by refine jO S ["c"] [] S.kn.f_quote.2.2 rfl (fun _ _ _ _ _ _ _ _=>iK fun v=>rfl) (by decide) (by decide) fun zz SD=>?_;refine s_cons ?_;ext;refine yS rfl ?_;refine wH (k:=k) SD.kn.l_quopri_map.2 hk ?_;exact h
theorem Ek:("0123456789ABCDEF":Str).length=16:=by decide+kernel
theorem Dd {z:Str} (hz:z.length≤big) (hk:k<z.length) (h:K (.str (mw z k)) st):PG C (.str z) (.int k) st K:=zO ⟨by simp,Df (aq (de hk) hz)⟩ (by simp) (by exact lh.mpr (by assumption)) h
theorem uE (hk:k<16):mw "0123456789ABCDEF" (k:Int)=dO (Os k):=by
 obtain this: ∀k:Nat,k<16→mw "0123456789ABCDEF" (k:Int)=dO (Os k):=by decide+kernel
 exact this k hk
theorem Kj (k:Nat):d8 (k:Int) 16=((k/ 16:Nat):Int):=by rw [Int.fdiv_eq_ediv_of_nonneg _ (by decide)];rfl
theorem Lj (k:Nat):cv (k:Int) 16=((k%16:Nat):Int):=by rw [qn _ (by decide)];rfl
theorem lZ {k:Nat} (S:bS C (n+1)) (hk:k<256) (h:K (.str (cW k)) st):PC C (.ref 242) [.int k] st K:=by
 walk_at "T C,st,K,n,k S hk h";refine jO S ["octet"] [] S.kn.f_law_coded.2.2 rfl (fun _ _ _ _ _ _ _ _=>iK fun v=>rfl) (by decide) (by decide) fun zz SD=>?_;refine s_cons (s_if (WT.val (k==9||(decide (32≤k)&&decide (k<127)&&k != 61)) ?_ ?_))
 ·ext
  refine aY (fun h1=>?_) (fun h1=>?_)
  ·have e:k=9:=by simp at h1;exact aQ 0x144a0374a1c1 0x108401 [_] h1
   subst e;exact ⟨rfl,rfl⟩
  ·ext
   refine aY (fun h2=>?_) (fun h2=>?_)
   ·ext
    refine aY (fun h3=>?_) (fun h3=>?_)
    ·ext
     refine aY (fun h4=>?_) (fun h4=>?_)
     ·ext
      simp only [bne_iff_ne,decide_eq_true_eq] at h2 h3 h4;exact ⟨by simp;exact hW 0x359dd0000f521ccc001fd2190400081344a03570400081360007f4b83bb8001ea5c1 0x20004010002000401000010800000420004010002008000080210000100001080000042100001 [_] h2 h3 h4,rfl⟩
     ·ext
      obtain e:k=61:=by simp at h4;exact aQ 0x50000f521b8001ea5c1 0x108401 [_] h4
      subst e;exact ⟨rfl,rfl⟩
    ·ext
     simp at h1 h3;exact ⟨by simp;lia,rfl⟩
   ·ext
    simp at h1 h2;exact ⟨by simp;lia,rfl⟩
 refine aY (fun hb=>?_) (fun hb=>?_)
 ·ext
  refine rJ (by exact bi _) (by lia) ?_;delta cW at h;rw [if_pos hb] at h;exact h
 ·ext
  rw [Kj];refine Dd (by decide+kernel) (by rw [Ek];lia) ?_;rw [uE (by lia)];refine gZ (by show 1+1≤1000000;decide) ?_;ext;rw [Lj];refine Dd (by decide+kernel) (by rw [Ek];lia) ?_;rw [uE (by lia)];refine gZ (by rw [Str.length_append];show 1+1+1≤1000000;decide) ?_;delta cW at h;rw [hb] at h;exact h
end
end
section
section
variable {C:Cx} {st:St} {K:PV→St→Prop} {n:Nat}
def eO (x:Int):Bool:=cv x 4 != cv (d8 x 4) 4||cv (d8 x 16) 2==1
def bU (xs:List Int):List (Int×Int):=(((xs.drop 4).take 6++[1,6,14,1]).filter eO).map fun x=>(cv x 4,cv (d8 x 4) 4)
def nM (l:List (Int×Int)):List PO:=l.map fun p=> .tuple [.int p.1, .int p.2]
theorem sY {a:Addr} {xs:List Int} (S:bS C (n+1)) (hi:fL C.K a xs) (hz:xs.length≤63)
  (h: ∀J,K (.ref (st.h.length+J.length)) ⟨st.v,st.h++J++ .list (cQ (st.h.length+J.length+1) (bU xs).length)::nM (bU xs)⟩):PC C (.ref 223) [.glob (.ref a)] st K:=by
 walk_at "T C,st,K,n,a,xs S hi hz h";refine jO S ["script"] [] S.kn.f_law_needs.2.2 rfl (fun _ _ _ _ _ _ _ _=>iK fun v=>rfl) (by decide) (by decide) ?_;walk_at "I zz, SD";refine s_cons (s_ret ?_);refine lW ["x"] (gV _ _ _ _ _ _) rfl SD S.qf 1 (by rfl) (cT S.qf ?_);ext;refine rV rfl rfl hi (by simp [aI,big];exact aq (by assumption) (ax _ _)) ?_;ext;refine ⟨by decide,?_⟩
 try dsimp only
 obtain e0:bH (aI xs) (some 4) (some 10)=aI ((xs.drop 4).take 6):=by rw [show (some (4:Int))=some ((4:Nat):Int) from rfl,show (some (10:Int))=some ((10:Nat):Int) from rfl,uF];simp [aI]
 rw [e0];refine iH (xs:=aI ((xs.drop 4).take 6)) (ys:=aI [1,6,14,1]) (by simp) (by simp [aI]) (by simp [aI,big];exact jP 0x121869c4b164404c8 0x200040108001 [_]) ?_
 try dsimp only
 generalize hH:st.h++[PO.list (aI (kr 6 (ph 4 xs)))]++[PO.list [PV.int 1,PV.int 6,PV.int 14,PV.int 1]]=H0;refine ⟨_,cN S.qf (i:=H0.length) (xs:=aI ((xs.drop 4).take 6)++aI [1,6,14,1]) (by simp),?_⟩;have e1:aI ((xs.drop 4).take 6)++aI [1,6,14,1]=aI ((xs.drop 4).take 6++[1,6,14,1]):=by simp [aI]
 rw [e1];generalize hys:(xs.drop 4).take 6++[1,6,14,1]=ys;generalize hH1:H0++[PO.list (aI ys)]=H1;have fl (k:Nat):((ys.take k).filter eO).map (fun x=>(cv x 4,cv (d8 x 4) 4))=((ys.take k).filter eO).map (fun x=>(cv x 4,cv (d8 x 4) 4)):=rfl;let P (k:Nat):List (Int×Int):=((ys.take k).filter eO).map fun x=>(cv x 4,cv (d8 x 4) 4);have get (t:List PO):(H1++t)[H0.length]? =some (.list (aI ys)):=by rw [←hH1,aa];exact cJ
 have nxE (k:Nat) (t:List PO):iS H0.length k (H1++t)=some (aI ys)[k]? :=by delta iS;rw [get]
 have hPl (k:Nat):(P k).length≤big:=by
  show (((ys.take k).filter eO).map _).length≤big;rw [bl];obtain e1:=bw eO (ys.take k);have e2:ys.length≤10:=by rw [←hys];simp;exact Nat.min_le_left _ _
  have e3:(ys.take k).length≤ys.length:=by rw [gy];exact pk _ _
  show _≤100000;exact hW 0x12186a0486420c9481c862 33825 [_,_,_] e1 e2 e3
 refine ⟨rfl,fun k s=>s=⟨[some (.glob (.ref a)),none],H1++ .list (cQ (H1.length+1) (P k).length)::nM (P k)⟩,ys.length,?_,?_,?_,?_,?_⟩
 ·rfl
 ·rintro k _ q rfl hq
  rw [nxE] at hq;have:=(af.mp (ba hq)).1;simpa [aI] using this
 ·rintro L' SB QB k _ q rfl hq
  rw [nxE] at hq;obtain ⟨hlt,hq⟩:=af.mp (ba hq);have hk:k<ys.length:=by simpa [aI] using hlt
  obtain hq':q= .int ys[k]:=by rw [←hq];simp [aI]
  subst hq';refine PA.wf fun W=>pa_name (i:=1) rfl rfl (WT.val (eO ys[k]) ?_ ?_)
  ·ext
   refine aY (fun h1=>?_) (fun h1=>?_)
   ·exact ⟨by delta eO;rw [h1];rfl,rfl⟩
   ·ext
    refine aY (fun h2=>?_) (fun h2=>?_)
    ·exact ⟨by delta eO;rw [h2];simp,rfl⟩
    ·ext
     exact ⟨by delta eO;rw [h1,h2];rfl,rfl⟩
  ·have hP:P (k+1)=P k++(if eO ys[k]=true then [(cv ys[k] 4,cv (d8 ys[k] 4) 4)] else []):=by
    show ((ys.take (k+1)).filter eO).map _=_;rw [d7,ae hk,gz,bv]
    congr 1
    by_cases hn:eO ys[k]=true<;>simp [hn]
   refine aY (fun hn=>?_) (fun hn=>?_)
   ·rw [hn,if_pos rfl] at hP
    refine nS QB ?_;ext;refine ⟨(by show 2≤100000;decide),cQ (H1.length+1) (P k).length,?_,?_,?_⟩
    ·dsimp only;rw [aa,cq];exact cJ
    ·rw [eK];exact hPl k
    ·dsimp only
     have e4:(H1++PO.list (cQ (H1.length+1) (P k).length)::nM (P k)++[PO.tuple [PV.int (cv ys[k] 4),PV.int (cv (d8 ys[k] 4) 4)]]).set H1.length (PO.list (cQ (H1.length+1) (P k).length++[PV.ref (H1++PO.list (cQ (H1.length+1) (P k).length)::nM (P k)).length]))=
       H1++PO.list (cQ (H1.length+1) (P (k+1)).length)::nM (P (k+1)):=by
      rw [aa,cq,cS,hP];rw [aj (as:=P k),er,qK]
      congr 2
      ·congr 2
       refine congrArg (fun x=>[PV.ref x]) ?_;simp [nM];exact jP 0x14509414054a0a041 33 [_,_]
      ·simp [nM]
     exact Gc.names [some (.glob (.ref a)),none] (by simp) (fun j w=>aF rfl) (by rw [e4])
   ·rw [hn,if_neg gp,be] at hP
    try dsimp only
    exact Gc.names [some (.glob (.ref a)),none] (by simp) (fun j w=>aF rfl) (by rw [hP])
 ·rintro k _ rfl
  rw [nxE];simp
 ·rintro k _ rfl hq
  rw [nxE] at hq;obtain hk:ys.length≤k:=by have:=bz.mp (ba hq);simpa [aI] using this
  obtain hP:P k=bU xs:=by show _=_;delta bU;rw [hys];show ((ys.take k).filter eO).map _=_;rw [cf hk]
  rw [hP];have:=h [PO.list (aI (kr 6 (ph 4 xs))),PO.list [PV.int 1,PV.int 6,PV.int 14,PV.int 1],PO.list (aI ys)];have e2:st.h++[PO.list (aI (kr 6 (ph 4 xs))),PO.list [PV.int 1,PV.int 6,PV.int 14,PV.int 1],PO.list (aI ys)]=H1:=by rw [←hH1, ←hH];simp
  rw [e2] at this;obtain e3:st.h.length+[PO.list (aI (kr 6 (ph 4 xs))),PO.list [PV.int 1,PV.int 6,PV.int 14,PV.int 1],PO.list (aI ys)].length=H1.length:=by rw [←e2];simp
  rw [e3] at this;exact this
end
end
section
section
variable {m:Nat}
variable {C:Cx} {st:St} {K:PV→St→Prop} {n:Nat}
def pieces:List Str:=["a"," ","=","\n","\t",⟨#[228]⟩,".","ab"]
def cI (x:Int) (k:Nat):Str:=pieces.getD (cv (d8 (d8 x 5) (8^k)) 8).toNat ""
def cD (x:Int):Str:=Txt.join "" ((am (2+cv x 5).toNat).map (cI x))
def aV (xs:List Int):List Int:=xs.take 4++[81,2562,110403,19982].drop (xs.take 4).length
theorem Pc (k:Nat):(8:Int)^k≠0:=Int.pow_ne_zero (by decide)
theorem Mx {k:Nat} (h:k<7):((8:Int)^k).natAbs<1073741824:=by
 obtain this: ∀k<7,((8:Int)^k).natAbs<1073741824:=by decide
 exact this k h
theorem zX {l:List Nat} (h: ∀y∈l,y≤m):l.sum≤l.length*m:=by
 induction l with
 |nil=>simp
 |cons a r ih=>obtain h1:=h a (.head _);obtain h2:=ih fun y hy=>h y (.tail _ hy);rw [ki,cn,py];exact aW 0x49418106a106440c862 1057 [_,_,_,_] h1 h2
theorem Aw (x:Int) (k:Nat):(cI x k).length≤2:=by
 delta cI;generalize (cv (d8 (d8 x 5) (8^k)) 8).toNat=d;by_cases h:d<pieces.length
 ·obtain this: ∀z∈pieces,z.length≤2:=by decide+kernel
  rw [ao,ae h];exact this _ (cg h)
 ·rw [ao,ft (po h)]
  exact (by decide+kernel:("":Str).length≤2)
theorem cX (x:Int) (hm:0<m):0≤cv x m∧cv x m<m:=by rw [qn _ (by exact bi _)];exact ⟨Int.emod_nonneg _ (by exact aQ 0x377021c198408 1025 [_] hm),Int.emod_lt_of_pos _ (by exact lh.mpr (by assumption))⟩
set_option maxHeartbeats 1000000 in
theorem rP {a:Addr} {xs:List Int} (S:bS C (n+1)) (hi:fL C.K a xs) (hz:xs.length≤63)
  (h: ∀J,K (.ref (st.h.length+J.length)) ⟨st.v,st.h++J++[.list (aB ((aV xs).map cD))]⟩):PC C (.ref 218) [.glob (.ref a)] st K:=by
 walk_at "T C,st,K,n,a,xs S hi hz h";refine jO S ["script"] ["pieces","numbers"] S.kn.f_law_texts.2.2 rfl (fun _ _ _ _ _ _ _ _=>iK fun v=>rfl) (by decide+kernel) (by decide+kernel) ?_;walk_at "I zz, SD";refine s_cons ?_;ext;refine ⟨by decide,?_⟩
 try dsimp only
 ext;refine rV rfl rfl hi (by simp [aI,big];exact aq (by assumption) (ax _ _)) ?_;ext;refine ⟨by decide,?_⟩;ext;refine rV rfl rfl hi (by simp [aI,big];exact aq (by assumption) (ax _ _)) ?_
 try dsimp only
 ext;refine oA (xs:=(aI xs).take 4) ?_ (by simp [big];exact jP 0x2430d40960488 33793 [_]) ?_
 ·rw [←iA];simp
 ext;refine fZ (xs:=aI [81,2562,110403,19982]) (lo:=some _) (hi:=none) rfl rfl ?_ (by decide) ?_
 ·simp [aI]
 try dsimp only
 rw [gR];obtain e1:bH (aI xs) none (some 4)=aI (xs.take 4):=by rw [show (some (4:Int))=some ((4:Nat):Int) from rfl,iA];simp [aI]
 obtain e2:ph (kr 4 (aI xs)).length (aI [81,2562,110403,19982])=aI ([81,2562,110403,19982].drop (xs.take 4).length):=by simp [aI]
 rw [e1,e2];refine iH (xs:=aI (xs.take 4)) (ys:=aI ([81,2562,110403,19982].drop (xs.take 4).length)) (by simp) (by simp) (by simp [aI,big];exact jP 0x2430d40952d812208860488 0x40100001000200800100001000010000100001 [_]) ?_
 try dsimp only
 obtain e3:aI (xs.take 4)++aI ([81,2562,110403,19982].drop (xs.take 4).length)=aI (aV xs):=by simp [aI,aV]
 rw [e3];generalize hH:st.h++[PO.list [PV.str (iw "a"),PV.str (iw " "),PV.str (iw "="),PV.str (iw "\n"),PV.str (iw "\t"),PV.str (iw "ä"),PV.str (iw "."),PV.str (iw "ab")]]++
  [PO.list (aI (xs.take 4))]++[PO.list [PV.int 81,PV.int 2562,PV.int 110403,PV.int 19982]]++[PO.list (aI (xs.take 4))]++[PO.list (aI ([81,2562,110403,19982].drop (xs.take 4).length))]=H0
 ext;refine bM ["x"] SD S.qf 3 (by kernel_rfl) (cT S.qf ?_);ext;refine ⟨_,cN S.qf (i:=H0.length) (xs:=aI (aV xs)) (by simp),rfl,aI (aV xs),fun q=>match q with| .int x=>some (.str (cD x))|_=>none,?_,?_,?_,?_⟩
 ·simp [aI,aV,big];exact jP 0x2430d40952d812208860488 0x40100001000200800100001000010000100001 [_]
 ·intro k t;delta iS;rw [aa,eh,cJ]
 ·walk_at "I L', SB QB q,acc hq"
  obtain ho72:=ap.mp hq;walk_at "E ho72 : x, hx qz2";subst qz2;ext;walk_at "k";ext;refine ⟨rfl,?_⟩;ext;refine bM ["k"] SB QB 4 (by kernel_rfl) (bP SB QB ?_);ext;have hm:0≤cv x 5∧cv x 5<5:=cX x (m:=5) (by decide);refine ⟨(2+cv x 5).toNat,by congr 1;(clear hm;lia),by lia,?_⟩;refine ⟨rfl,(am (2+cv x 5).toNat).map (fun k:Nat=>PV.int k),fun q=>match q with| .int k=>some (.str (cI x k.toNat))|_=>none,?_,?_,?_,?_⟩
  ·simp [big];(clear hm;lia)
  ·intro k t;exact cG _ _ _
  ·walk_at "I L'', SB2 QB2 q,acc2 hq"
   obtain ho88:=ap.mp hq;walk_at "E ho88 : k, hk qz2";subst qz2;ext;have hk5:k<7:=by have:=bj.mp hk;lia
   refine Oa (by exact bi _) (by exact aQ 0xafa12025c199d01 33 [_] hk5) (by decide) ?_;rw [bo];refine b_div (Pc k) (PyProof.noPylong_small (Mx hk5)) ?_;ext;have h8:=cX (d8 (d8 x 5) (8^k)) (m:=8) (by decide);have h8:0≤cv (d8 (d8 x 5) (8^k)) 8∧cv (d8 (d8 x 5) (8^k)) 8<8:=h8;generalize hd:cv (d8 (d8 x 5) (8^k)) 8=d at h8 ⊢;obtain hpk:cI x k=pieces.getD d.toNat "":=by delta cI;rw [hd]
   obtain hpl:d.toNat<pieces.length:=by have:pieces.length=8:=rfl;simp_all
   refine gO (xs:=pieces.map .str) (p:= .str (cI x k)) ?_ ⟨by (clear hd;lia),by (clear hd;lia)⟩ h8.1 ?_ ?_
   ·dsimp only
    have:H0=st.h++PO.list (pieces.map .str)::([PO.list (aI (xs.take 4))]++[PO.list [PV.int 81,PV.int 2562,PV.int 110403,PV.int 19982]]++[PO.list (aI (xs.take 4))]++[PO.list (aI ([81,2562,110403,19982].drop (xs.take 4).length))]):=by rw [←hH];simp only [aa,eh,cq];rfl
    rw [this];simp only [aa,cq];exact cJ
   ·rw [b8,hpk,ao,ae hpl];rfl
   ·exact ⟨by simp,trivial,cU.now fun j w=>aF (by simp)⟩
  ·ext
   refine xN (l:=(am (2+cv x 5).toNat).map (cI x)) ?_ ?_ ?_
   ·dsimp only
    rw [bf (ay _)];simp only [rt,ms,aB,mf,cw]
    congr 2
    rw [←rz];rfl
   ·refine joinOk_of ?_
    have e8:((am (2+cv x 5).toNat).map (cI x)).length≤6:=by simp;(clear hm;lia)
    obtain e9:=zX (l:=((am (2+cv x 5).toNat).map (cI x)).map (·.length)) (m:=2) (fun y hy=>by
     refine aE (ap.mp hy) fun z hz qz2=>?_;subst qz2;refine aE (ap.mp hz) fun k _ qz2=>?_;subst qz2;exact Aw x k)
    rw [bl] at e9;show _+_*0≤_;lia
   ·exact ⟨rfl,trivial,⟨fun j w=>aF rfl,_,rfl⟩⟩
 ·obtain e5:(aI (aV xs)).filterMap (fun q=>match q with| .int x=>some (PV.str (cD x))|_=>none)=aB ((aV xs).map cD):=by
   simp only [aI,aB,mf,cw];rw [←rz];rfl
  rw [e5];obtain ho133: ∃J,H0++[PO.list (aI (aV xs))]=st.h++J:=⟨_,by rw [←hH];simp only [aa];rfl⟩;walk_at "E ho133 : J, hJ";obtain e6:(H0++[PO.list (aI (aV xs))]).length=st.h.length+J.length:=by rw [hJ];simp
  have:=h J;rw [←e6, ←hJ] at this;exact this
end
end
section
section
variable {a b:Nat}
variable {C:Cx} {st:St} {K:PV→St→Prop} {n:Nat}
theorem Nz (ha:a∈hU) (hb:b∈hU):hv a*16+hv b<256:=by
 obtain this: ∀a∈hU,hv a<16:=by decide+kernel
 have:=this a ha;have:=(by assumption: ∀a∈hU,hv a<16) b hb;lia
theorem xS {c:Nat} (S:bS C (n+1)) (ha:a∈hU) (hb:b∈hU) (h:K (.str (dO (hv a*16+hv b))) st):PC C (.ref 58) [.str ⟨#[c,a,b]⟩] st K:=by
 refine jO S ["s"] [] S.kn.f_unquote.2.2 rfl (fun _ _ _ _ _ _ _ _=>iK fun v=>rfl) (by decide+kernel) (by decide+kernel) fun zz SD=>?_;refine s_cons ?_;ext;refine eU (lo:=some 1) (hi:=some 3) rfl rfl (by show 3≤100000;decide) ?_;obtain e:mu ⟨#[c,a,b]⟩ (some 1) (some 3)=⟨#[a,b]⟩:=by rw [vK];rfl
 rw [e];ext;refine Ip ha hb ?_;ext;have:=Nz ha hb;refine rJ (by exact bi _) (by lia) ?_;exact h
end
end
section
section
variable {l:List Str}
variable {C:Cx} {st:St} {K:PV→St→Prop} {n:Nat}
theorem eY {a b:Str} (h:fV a b=false):a=b∨fV b a=true:=by
 delta fV at*;rw [decide_eq_false_iff_not] at h;rw [decide_eq_true_eq];have h:=List.not_lt.mp h;rcases List.le_iff_lt_or_eq.mp h with h|h
 ·exact .inr h
 ·left
  cases a;cases b
  congr 1
  exact (lq.mp h).symm
def eQ (one other:List Str) (k:Nat):Bool:= !other.any (· ==one.getD k "")&&(!(one.take k).any (· ==one.getD k "")||other.all (fun o=>fV o (one.getD k "")))
def mL (one other:List Str):List Str:=((am one.length).filter (eQ one other)).map fun k=>one.getD k ""
theorem Ht (l:List Str):oi (.list (l.map .str)) (.list [])=l.isEmpty:=by cases l<;>rfl
theorem mY (h: ∀z∈l,k6 z=true):ig (l.map .str)=true:=by
 induction l with
 |nil=>rfl
 |cons a r ih=>simp only [bg,ig,md,h a (.head _),Bool.true_and];exact ih fun z hz=>h z (.tail _ hz)
theorem kG (l:List Str):i5 (l.map .str)≤1:=by
 induction l with
 |nil=>exact cz _
 |cons a r ih=>simp only [bg,i5,j0];assumption
theorem nA (h: ∀z∈l,k6 z=true):qi (.list (l.map .str))=true:=by delta qi;rw [bt];refine ⟨mY h,?_⟩;have:=kG l;rw [decide_eq_true_eq,j0];exact co (by assumption) (by decide)
theorem mE (H:List PO): ∀l:List Str,DeepAll H (aB l) (l.map .str):=by
 intro zi;induction zi with
 |nil=>exact .nil
 |cons z r ih=>exact .cons (.str z) (ih)
set_option maxHeartbeats 1000000 in
theorem pK {i j:Nat} {one other:List Str} (S:bS C (n+1)) (hi:st.h[i]? =some (.list (aB one))) (hj:st.h[j]? =some (.list (aB other))) (hz:one.length<64) (hz2:other.length<64) (hok: ∀z∈other,k6 z=true)
  (h: ∀J l',l'.Perm (mL one other)→sortedS l'=true→K (.ref (st.h.length+J.length)) ⟨st.v,st.h++J++[.list (aB l')]⟩):PC C (.ref 254) [.ref i, .ref j] st K:=by
 walk_at "T C,st,K,n,i,j,one,other S hi hj hz hz2 hok h";refine jO S ["one","other"] ["row","k"] S.kn.f_law_lacking.2.2 rfl (fun _ _ _ _ _ _ _ _=>rF fun v u=>rfl) (by decide) (by decide) ?_;walk_at "I zz, SD";obtain hlt:=(af.mp hi).1;obtain hltj:=(af.mp hj).1;have hi2 (t:List PO):(st.h++t)[i]? =some (.list (aB one)):=by rw [bh hlt];exact hi
 have hj2 (t:List PO):(st.h++t)[j]? =some (.list (aB other)):=by rw [bh hltj];exact hj
 refine s_cons ?_;ext;refine ⟨by decide,?_⟩
 try dsimp only
 ext;refine hV S.qf (bP SD S.qf ?_);ext;refine oA (xs:=aB one) (hi2 _) (by simp [aB,big];exact aQ 0x2430d4090cc0010121 33 [_] hz) ?_;refine ⟨one.length,by simp [aB],by exact aQ 0x25e848090cc0010121 33 [_] hz,?_⟩;let P (k:Nat):List Str:=((am k).filter (eQ one other)).map fun k=>one.getD k "";have hPl (k:Nat):(P k).length≤k:=by show (((am k).filter _).map _).length≤k;rw [bl];exact aq (bw _ _) (by simp)
 refine ⟨fun k s=>k≤one.length∧s=⟨[some (.ref i),some (.ref j),some (.ref st.h.length),none],st.h++[.list (aB (P k))]⟩,one.length,?_,?_,?_,?_,?_⟩
 ·exact ⟨cz _,rfl⟩
 ·rintro k _ q ⟨hk,rfl⟩ hq
  simp only [nZ,cy] at hq;split at hq
  ·assumption
  ·cases hq
 ·rintro k _ q ⟨hk',rfl⟩ hq
  simp only [nZ,cy] at hq;split at hq
  case isFalse=>cases hq
  rename_i hk
  cases hq;have hgD:one.getD k ""=one[k]:=by rw [ao,ae hk];rfl
  have gk {H:List PO} {KK:PV→St→Prop} {C':Cx} {v:List (Option PV)} (hH: ∃t,H=st.h++t) (hK:KK (.str one[k]) ⟨v,H⟩):PG C' (.ref i) (.int k) ⟨v,H⟩ KK:=by obtain ⟨t,rfl⟩:=hH;refine gO (xs:=aB one) (p:= .str one[k]) (hi2 _) ⟨by exact bi _,by lia⟩ (by exact bi _) ?_ hK;rw [bo];simp [aB,hk]
  have hP:P (k+1)=P k++(if eQ one other k=true then [one[k]] else []):=by
   show ((am (k+1)).filter _).map _=_;rw [i8,gz,bv]
   congr 1
   by_cases hn:eQ one other k=true
   ·rw [if_pos hn];simp [hn,hk]
   ·rw [if_neg hn];simp [hn]
  refine PA.wf ?_;walk_at "I W";refine pa_name (i:=3) rfl rfl ?_;refine s_cons (s_if (WT.mono (K:=fun c st'=>c=eQ one other k∧ ∃J,st'=⟨[some (.ref i),some (.ref j),some (.ref st.h.length),some (.int k)],st.h++[.list (aB (P k))]++J⟩) ?_ ?_))
  ·ext
   refine gk ⟨_,by simp only [aa];rfl⟩ ?_;ext;refine Ej (hj2 _) ?_;ext;refine aY (fun h1=>?_) (fun h1=>?_)
   case _=>
    obtain e2:eQ one other k=(!(one.take k).any (· ==one[k])||other.all (fun o=>fV o one[k])):=by delta eQ;rw [hgD,h1];rfl
    rw [e2];ext;refine gk ⟨_,by simp only [aa];rfl⟩ ?_;ext;refine fZ (i:=i) (xs:=aB one) (lo:=none) (hi:=some (k:Int)) rfl rfl (hi2 _) (by simp [aB,big];exact aQ 0x2430d4090cc0010121 33 [_] hz) ?_;obtain e1:bH (aB one) none (some (k:Int))=aB (one.take k):=by rw [iA];simp [aB]
    rw [e1]
    try dsimp only
    refine Ej (l:=one.take k) (by simp) ?_;ext;refine aY (fun h2=>?_) (fun h2=>?_)
    ·ext
     exact ⟨by rw [h2];rfl,_,rfl⟩
    ·rw [h2,mo]
     ext;refine ⟨by decide,?_⟩
     try dsimp only
     refine Jy SD (da:= .list (other.map .str)) (db:= .list []) (.list (xs:=aB other) (by rw [vS];exact hj2 _) (mE _ _)) (.list (xs:=[]) (by simp) .nil) (nA hok) (by decide) ?_;rw [Ht];ext;refine aY (fun h3=>?_) (fun h3=>?_)
     ·have:other=[]:=by simpa using h3
      subst this;ext;exact ⟨rfl,[PO.list (aB (kr k one)),PO.list []],by simp⟩
     ·ext
      refine gk ⟨_,by simp only [aa];rfl⟩ ?_;ext;refine Lh SD (l:=other) (by rw [vS];exact hj2 _) (by simpa using h3) fun m hm hmax=>?_;ext;have e3:fV m one[k]=other.all (fun o=>fV o one[k]):=by
       rw [fa,f9];refine ⟨fun q o ho=>?_,fun q=>q m hm⟩;rcases eY (hmax o ho) with rfl|h4
       ·exact q
       ·exact gT _ _ _ h4 q
      ext;refine aY (fun h4=>?_) (fun h4=>?_)<;>ext
      ·exact ⟨by rw [←e3,h4],[PO.list (aB (kr k one)),PO.list []],by simp⟩
      ·exact ⟨by rw [←e3,h4],[PO.list (aB (kr k one)),PO.list []],by simp⟩
   case _=>
    ext;exact ⟨by delta eQ;rw [hgD,h1];rfl,[],by rw [be];rfl⟩
  ·rintro c _ ⟨rfl,J,rfl⟩
   refine aY (fun hn=>?_) (fun hn=>?_)
   ·ext
    walk_at "k";ext;have hrow:(st.h++[PO.list (aB (P k))]++J)[st.h.length]? =some (.list (aB (P k))):=by rw [aa];exact cJ
    refine ⟨⟨_,hrow,rfl⟩,?_⟩;ext;refine gk ⟨_,by simp only [aa];rfl⟩ ?_;ext;refine eP hrow (by have:=hPl k;simp [aB,big];exact hW 0x90c35024330004048a621c861 33825 [_,_,_] hz hk this) ?_;rw [aa,eh,cS];rw [hn,if_pos rfl] at hP;have e0:aB (P k)++[.str one[k]]=aB (P (k+1)):=by rw [hP];simp [aB]
    rw [e0];ext;exact Gc.app W oF (by simp) (fun i' w h=>aF (j:=3) rfl h) ⟨hk,rfl⟩
   ·rw [hn] at hP
    obtain e0:P (k+1)=P k:=by rw [hP];simp
    ext;exact Gc.keep W (by simp) (fun i' w h=>aF (j:=3) rfl h) ⟨hk,by rw [e0]⟩
 ·rintro k _ ⟨_,rfl⟩;simp [nZ]
 ·rintro k _ ⟨hk,rfl⟩ hq
  simp only [nZ,cy] at hq;split at hq
  ·cases hq
  rename_i hk2
  have:k=one.length:=by exact aW 0x2820c841dcc41 0x2008021 [_,_] hk hk2
  subst this;ext;refine gP (l:=P one.length) (by simp) (by have:=hPl one.length;exact co (by assumption) (by assumption)) fun l' h1 h2=>?_;have:=h [PO.list (aB (P one.length))] l' h1 h2;simp at this ⊢;exact this
end
end
section
section
variable {C:Cx} {st:St} {K:PV→St→Prop} {n:Nat}
set_option maxHeartbeats 1000000 in
inductive Qf (h0:List PO) (p:PV) (w:Nat) (cs:List (List Nat)) (m:Nat) (s:St):Prop
 |mk (J:List PO) (r ll:Nat) (done left':List (List Nat)) (cnt:Option PV) (e:s=⟨[some p,some (.int w),some (.ref (h0.length+r)),some (.ref (h0.length+ll)),cnt,none,none],h0++J⟩) (hr:J[r]? =some (.list (dH done))) (hll:J[ll]? =some (.list (dH left')))
   (hne:r≠ll) (hm:left'.length≤m) (hx3: ∀x∈left',x.length≤3) (hbd:done.length+left'.length≤1000) (hres:done++bB w m left'=bB w cs.length cs):Qf h0 p w cs m s
theorem iX {p:PV} {l:List Nat} {w:Nat} (S:bS C (n+2)) (hp:lO st.h p l) (hl: ∀c∈l,c<256) (hz:l.length≤1000) (hw:4≤w) (hw2:w≤1000)
  (h: ∀J,K (.ref (st.h.length+J.length)) ⟨st.v,st.h++J++[.list (dH (bB w l.length (l.map aR)))]⟩):PC C (.ref 247) [p, .int w] st K:=by
 walk_at "T C,st,K,n,p,l,w S hp hl hz hw hw2 h";refine jO S ["line","width"] ["rows","left","count","tail","code"] S.kn.f_law_rows.2.2 rfl (fun _ _ _ _ _ _ _ _=>rF fun v u=>rfl) (by decide) (by decide+kernel) ?_;walk_at "I zz, SD";refine s_cons ?_;ext;refine bM ["sign"] SD S.qf 7 (by kernel_rfl) (cT S.qf ?_);ext;obtain ⟨nx,hpi,hnx⟩:=hp.pi (v:=[some p,some (.int w),none,none,none,none,none]) S.qf;refine ⟨nx,hpi,rfl,l.map (fun c=>PV.str (dO c)),fun q=>match q with| .str z=>some (.str (cW (z.cps.getD 0 0)))|_=>none,?_,?_,?_,?_⟩
 ·simp [big];exact aq (by assumption) (ax _ _)
 ·intro k t;exact hnx k t
 ·walk_at "I L', SB QB q,acc hq"
  have hx1:=ap.mp hq;walk_at "E hx1 : c, hc qz2";subst qz2;ext;refine yS rfl ?_;ext;refine lZ SB (hl c hc) ?_;exact ⟨rfl,trivial,cU.now fun j w=>aF rfl⟩
 have ec:(l.map (fun c=>PV.str (dO c))).filterMap (fun q=>match q with| .str z=>some (PV.str (cW (z.cps.getD 0 0)))|_=>none)=dH (l.map aR):=by
  clear hnx hpi h hp hl hz;induction l with
  |nil=>rfl
  |cons c r ih=>rw [bg,ge,ih];rfl
 rw [ec];clear ec hnx hpi;generalize hcs:l.map aR=cs;have h3: ∀x∈cs,x.length≤3:=by walk_at "I x, hx";rw [←hcs] at hx;have hx2:=ap.mp hx;walk_at "E hx2 : c, _ qz2";subst qz2;exact (rM c).2
 have hlen:cs.length=l.length:=by rw [←hcs];simp
 rw [←hlen] at hz;rw [←hlen,hcs] at h;clear hcs hlen hp hl
 try dsimp only
 ext;refine ⟨by decide,?_⟩;ext
 letI I:=Qf st.h p w cs
 refine iG S.qf I cs.length ?_ ?_
 ·exact ⟨[.list (dH cs), .list []],1,0,[],cs,none,by simp,rfl,rfl,by decide,ay _,h3,by simpa using hz,rfl⟩
 walk_at "I m,zq3 hI4";refine Qf.casesOn hI4 ?_;walk_at "I J,r,ll,done,left',cnt hz hr hll hne hm hx3 hbd hres";subst hz;have hfl:=Gp hx3;have gr (t:List PO):(st.h++J++t)[st.h.length+r]? =some (.list (dH done)):=by rw [aa,cK];exact old_get hr
 have gl (t:List PO):(st.h++J++t)[st.h.length+ll]? =some (.list (dH left')):=by rw [aa,cK];exact old_get hll
 ext;walk_at "j";refine gD (by have:=gl [];rwa [be] at this) (aC (by exact aW 0x12186a04864007d0950c521c461 3105 [_,_,_] hbd hfl)) ?_;ext;refine iW (by rw [aH];exact aC (by exact aW 0x12186a04864007d0950c521c461 3105 [_,_,_] hbd hfl)) ?_;rw [aH];ext;have hI (hh:decide ((w:Int)<(left'.flatten.length:Int))=true): ∃m',m=m'+1∧w<left'.flatten.length:=by
  have:w<left'.flatten.length:=by simpa using hh
  cases m with
  |zero=>have:left'=[]:=ku.mp (by simp_all);subst this;simp at*
  |succ m'=>exact ⟨m',rfl,this⟩
 refine aY (fun hgt=>?_) (fun hgt=>?_)
 ·have hx5:=hI hgt
  walk_at "E hx5 : m', qz1 hgt";subst qz1;have hcp:=By hx3 hw hgt;have hne':left'≠[]:=by rintro rfl;simp at hgt
  have hcl:=vH (w:=w) hne';have hst:bB w (m'+1) left'=((left'.take (cZ w left')).flatten++[61])::bB w m' (left'.drop (cZ w left')):=by rw [eF,if_pos hgt]
  rw [hst] at hres;clear hst;ext;refine bM ["k"] SD S.qf 7 (by kernel_rfl) (bP SD S.qf ?_);ext;refine oA (xs:=dH left') (by have:=gl [];rwa [be] at this) (by rw [bG];exact aC (by exact aQ 0x90c3502432003e84a822 33 [_,_] hbd)) ?_;rw [bG];refine ⟨left'.length,rfl,by exact aQ 0x97a1202432003e84a822 33 [_,_] hbd,?_⟩;refine ⟨rfl,(am left'.length).map (fun k:Nat=>PV.int k),fun q=>match q with| .int k=>if (left'.take k.toNat).flatten.length<w then some (.int k) else none|_=>none,?_,?_,?_,?_⟩
  ·rw [bl,k9];exact aC (by exact aQ 0x90c3502432003e84a822 33 [_,_] hbd)
  ·intro k t;delta nZ;rw [b8]
   by_cases hk:k<left'.length
   ·rw [if_pos hk,ka hk];rfl
   ·rw [if_neg hk,ft (by simpa using hk)];rfl
  ·walk_at "I L', SB QB q,acc hq"
   have hx6:=ap.mp hq;walk_at "E hx6 : k, hk qz2";subst qz2;have hk:=bj.mp hk;ext;walk_at "k";ext;refine ⟨rfl,?_⟩;ext;refine fZ (i:=st.h.length+ll) (xs:=dH left') (lo:=none) (hi:=some (k:Int)) rfl rfl (gl _) (by rw [bG];exact aC (by exact aQ 0x90c3502432003e84a822 33 [_,_] hbd)) ?_;have e1:bH (dH left') none (some (k:Int))=dH (left'.take k):=by rw [iA];simp [dH,aB]
   rw [e1];ext;have hfk:(left'.take k).flatten.length≤left'.flatten.length:=by have:=congrArg gt (congrArg List.flatten (fq k left'));rw [ew,aj] at this;exact aQ 0x9083412861 33 [_,_,_] this
   refine gD (ls:=left'.take k) (by simp) (aC (by exact hW 0x90c3502432003e84a86290e2324881 99361 [_,_,_,_] hbd hfl hfk)) ?_;ext;refine iW (by rw [aH];exact aC (by exact hW 0x90c3502432003e84a86290e2324881 99361 [_,_,_,_] hbd hfl hfk)) ?_;rw [aH];ext;refine aY (fun h4=>?_) (fun h4=>?_)
   ·have h4:(left'.take k).flatten.length<w:=by simpa using h4
    ext;exact ⟨if_pos (by simpa using h4),trivial,fun j w=>aF rfl,_,rfl⟩
   ·have h4: ¬(left'.take k).flatten.length<w:=by simpa using h4
    exact ⟨if_neg (by simpa using h4),fun j w=>aF rfl,_,rfl⟩
  have ef:((am left'.length).map (fun k:Nat=>PV.int k)).filterMap (fun q=>match q with| .int k=>if (left'.take k.toNat).flatten.length<w then some (PV.int k) else none|_=>none)=
    aI (((am left'.length).filter fun k=>decide ((left'.take k).flatten.length<w)).map fun k:Nat=>(k:Int)):=by
   generalize am left'.length=ks;induction ks with
   |nil=>rfl
   |cons k r ih=>
    simp only [bg,ge,bo,c9];by_cases hk:(left'.take k).flatten.length<w
    ·rw [if_pos hk,if_pos (by simpa using hk),ih];rfl
    ·rw [if_neg hk,if_neg (by simpa using hk),ih]
  rw [ef];clear ef;ext;refine Eo SD (l:=((am left'.length).filter fun k=>decide ((left'.take k).flatten.length<w)).map fun k:Nat=>(k:Int)) (by simp) ?_ fun mx hmx hmax=>?_
  ·walk_at "I e0"
   have:0∈(am left'.length).filter fun k=>decide ((left'.take k).flatten.length<w):=by rw [bp];exact ⟨bj.mpr (by exact lb (by assumption) (by assumption)),decide_eq_true (by show 0<w;exact aq (ax _ _) (by assumption))⟩
   rw [List.map_eq_nil_iff] at e0;rw [e0] at this;cases this
  have hmx':mx=(cZ w left':Nat):=by have hx7:=ap.mp hmx;obtain ⟨k,hk,qz2⟩:=hx7;subst qz2;obtain ⟨hk1,hk2⟩:=bp.mp hk;have h1:=qS (bj.mp hk1) (of_decide_eq_true hk2);have h2:=hmax (cZ w left':Nat) (du (bp.mpr ⟨bj.mpr hcl,decide_eq_true (pO (by exact aq (ax _ _) (by assumption)))⟩));exact aW 0x17709c190835705c2 0x2008021 [_,_] h1 h2
  subst hmx';generalize hc:cZ w left'=c at*;ext;walk_at "k";ext;refine ⟨⟨_,by simp only [aa];rw [←aa];exact gr _,rfl⟩,?_⟩;ext;walk_at "k";ext;refine ⟨rfl,?_⟩;ext;refine fZ (i:=st.h.length+ll) (xs:=dH left') (lo:=none) (hi:=some (c:Int)) rfl rfl (gl _) (by rw [bG];exact aC (by exact aQ 0x90c3502432003e84a822 33 [_,_] hbd)) ?_;have e1:bH (dH left') none (some (c:Int))=dH (left'.take c):=by rw [iA];simp [dH,aB]
  rw [e1];ext;have hfk:(left'.take c).flatten.length≤left'.flatten.length:=by have:=congrArg gt (congrArg List.flatten (fq c left'));rw [ew,aj] at this;exact aQ 0x9083412861 33 [_,_,_] this
  refine gD (ls:=left'.take c) (by simp) (aC (by exact hW 0x90c3502432003e84a86290e2324881 99361 [_,_,_,_] hbd hfl hfk)) ?_;ext;rw [vG];refine gZ (by rw [aH,aH];show _+1≤_;exact hW 0x4bd09012a0a032003e84a86290e2324881 99361 [_,_,_,_] hbd hfl hfk) ?_;rw [cL];ext;refine eP (i:=st.h.length+r) (xs:=dH done) (by rw [vS];rw [←aa];exact gr _) (by rw [bG];exact aC (by exact aQ 0x90c3502432003e84a841 33 [_,_] hbd)) ?_;have hrl:=(af.mp hr).1;have hH (A B X:PO):(st.h++J++[A]++[B]).set (st.h.length+r) X=st.h++(J.set r X++[A,B]):=by
   simp only [aa,tC]
   congr 1
   rw [List.set_append_left _ _ hrl];rfl
  try dsimp only
  rw [hH];have gl2 (X:PO) (t:List PO):(st.h++(J.set r X++t))[st.h.length+ll]? =some (.list (dH left')):=by rw [cK,bh (by rw [f0];exact (af.mp hll).1),fi hne];exact hll
  ext;refine fZ (i:=st.h.length+ll) (xs:=dH left') (lo:=some (c:Int)) (hi:=none) rfl rfl (gl2 _ _) (by rw [bG];exact aC (by exact aQ 0x90c3502432003e84a822 33 [_,_] hbd)) ?_;have e2:bH (dH left') (some (c:Int)) none=dH (left'.drop c):=by rw [gR];simp [dH,aB]
  rw [e2];ext;refine .inl ⟨m',by exact ch _,J.set r (PO.list (dH done++[PV.str (tx ((left'.take c).flatten++[61]))]))++[PO.list (aI (((am left'.length).filter fun k=>decide ((left'.take k).flatten.length<w)).map fun k:Nat=>(k:Int))),PO.list (dH (left'.take c)),PO.list (dH (left'.drop c))],r,J.length+2,done++[(left'.take c).flatten++[61]],left'.drop c,some (.int c),?_,?_,?_,?_,?_,?_,?_,?_⟩
  ·simp [qx]
  ·rw [bh (by rw [f0];exact hrl),gu hrl,iC];rfl
  ·rw [bf (by simp)];simp
  ·exact aQ 0x374509020cc41 1056 [_,_] hrl
  ·simp;exact aW 0x49431064a0a04190c28 1057 [_,_,_] hm hcp
  ·intro x hx;exact hx3 x (j3 hx)
  ·simp;(exact hW 0x24007d0952c62505019001f425420c86144c43 0x840108001 [_,_,_] hbd hcp hcl)
  ·rw [←hres,aa];rfl
 ·have hle:left'.flatten.length≤w:=by simpa using hgt
  have hend:bB w m left'=bI w left'.flatten:=by
   cases m with
   |zero=>rfl
   |succ m=>rw [eF];rw [if_neg (by exact fe.mpr (by assumption))]
  rw [hend] at hres;have nQ {H:List PO} {X:List PV} (hH: ∃J',H=st.h++J') (hX:X=dH (bB w cs.length cs)):K (.ref H.length) ⟨st.v,H++[.list X]⟩:=by have ho8:=hH;walk_at "E ho8 : J', rfl";subst hX;rw [aj];exact h J'
  ext;walk_at "j";refine gD (by have:=gl [];rwa [be] at this) (aC (by exact aW 0x12186a04864007d0950c521c461 3105 [_,_,_] hbd hfl)) ?_;have hf2:left'.flatten.length≤3000:=by exact aW 0x1200bb84864007d0950c521c461 3105 [_,_,_] hbd hfl
  generalize left'.flatten=t at hres hle hf2 ⊢;have htb:(tx t).length≤big:=by rw [aH];exact aC (by exact aq (by assumption) (ax _ _))
  ext;refine eU (lo:=some (-1)) (hi:=none) rfl rfl htb ?_;rw [dA,xU];ext;refine ⟨aC (by decide),?_⟩;ext;refine Ks (l:=[" ","\t"]) (by simp) ?_;ext;have ec:(!([" ","\t"]:List Str).any (· ==tx (t.drop (t.length - 1))))= !decide (t.getLast? =some 32∨t.getLast? =some 9):=by
   rw [Jp,Me];simp only [on,List.any_nil,nX,Bool.or_false]
   congr 1
   rw [fa];rcases ju t with rfl|⟨a,c,rfl⟩
   ·rfl
   ·simp;lia
  rw [ec];delta bI at hres;refine aY (fun h5=>?_) (fun h5=>?_)
  ·have h5: ¬(t.getLast? =some 32∨t.getLast? =some 9):=by simpa using h5
   rw [if_neg h5] at hres;ext;refine ⟨aC (by show 1≤100000;decide),?_⟩;ext;refine iH (xs:=dH done) (ys:=[PV.str (tx t)]) (by rw [vS];rw [←aa];exact gr _) (by simp) (by rw [bG];exact aC (by show _+1≤_;exact aQ 0x4861a812a0a032003e84a841 33 [_,_] hbd)) ?_;exact nQ ⟨_,by simp only [aa];rfl⟩ (by rw [←hres,iC];rfl)
  ·have h5:t.getLast? =some 32∨t.getLast? =some 9:=by rw [te,decide_eq_true_eq] at h5;exact h5
   rw [if_pos h5] at hres;dsimp only at hres;have hne0:t≠[]:=by rintro rfl;simp at h5
   ext;refine zO (by decide) (by rw [aH];have:=gd.mpr hne0;lia) (by rw [aH];have:=gd.mpr hne0;exact bi _) ?_;rw [yR hne0];ext;refine Ol ?_;have hcd:(if (tx [t.getLast hne0]==(" ":Str))=true then ("=20":Str) else "=09")=tx (if t.getLast? =some 32 then [61,50,48] else [61,48,57]):=by
    rw [g7 hne0,Jp,nX,Rr,Rq];by_cases hx:t.getLast hne0=32
    ·simp [hx]
    ·simp [hx]
   rw [hcd];generalize hcode:(if t.getLast? =some 32 then [61,50,48] else [61,48,57]:List Nat)=code at hres ⊢;have hc3:code.length=3:=by rw [←hcode];split<;>rfl
   ext;refine iW htb ?_;rw [aH];ext;refine aY (fun h6=>?_) (fun h6=>?_)
   ·have h6:t.length+2≤w:=by simp at h6;exact jd.mp (by assumption)
    rw [if_pos h6] at hres;ext;refine eU (lo:=none) (hi:=some (-1)) rfl rfl htb ?_;rw [dA,gL];ext;refine gZ (by rw [aH,aH];simp;exact aW 0x4bd09012a12c280d06814802ee121 0x10002008401 [_,_] hc3 hf2) ?_;rw [cL];ext;refine ⟨aC (by show 1≤100000;decide),?_⟩;ext;refine iH (xs:=dH done) (ys:=[PV.str (tx (t.dropLast++code))]) (by rw [vS];rw [←aa];exact gr _) (by simp) (by rw [bG];exact aC (by show _+1≤_;exact aQ 0x4861a812a0a032003e84a841 33 [_,_] hbd)) ?_;exact nQ ⟨_,by simp only [aa];rfl⟩ (by rw [←hres,iC];rfl)
   ·have h6: ¬t.length+2≤w:=by simp at h6;exact aQ 0x6e4250901b2848705c2 33 [_,_] h6
    rw [if_neg h6] at hres;ext;refine iW htb ?_;rw [aH];ext;refine aY (fun h7=>?_) (fun h7=>?_)
    ·have h7:t.length<w:=by simp at h7;assumption
     rw [if_pos h7] at hres;ext;rw [vG];refine gZ (by rw [aH,aH];show _+1≤_;exact co (by assumption) (by decide)) ?_;rw [cL];ext;refine ⟨aC (by show 2≤100000;decide),?_⟩;ext;refine iH (xs:=dH done) (ys:=[PV.str (tx (t++[61])),PV.str ""]) (by rw [vS];rw [←aa];exact gr _) (by simp) (by rw [bG];exact aC (by show _+2≤_;exact aQ 0x4861a812a12032003e84a841 33 [_,_] hbd)) ?_;exact nQ ⟨_,by simp only [aa];rfl⟩ (by rw [←hres,iC,pI];rfl)
    ·have h7: ¬t.length<w:=by simp at h7;exact fe.mpr (by assumption)
     rw [if_neg h7] at hres;ext;refine eU (lo:=none) (hi:=some (-1)) rfl rfl htb ?_;rw [dA,gL];ext;rw [vG];refine gZ (by rw [aH,aH];simp;exact aq (by assumption) (ax _ _)) ?_;rw [cL];ext;refine ⟨aC (by show 2≤100000;decide),?_⟩;ext;refine iH (xs:=dH done) (ys:=[PV.str (tx (t.dropLast++[61])),PV.str (tx code)]) (by rw [vS];rw [←aa];exact gr _) (by simp) (by rw [bG];exact aC (by show _+2≤_;exact aQ 0x4861a812a12032003e84a841 33 [_,_] hbd)) ?_;exact nQ ⟨_,by simp only [aa];rfl⟩ (by rw [←hres,iC];rfl)
end
end
section
section
variable {line:List Nat}{w:Nat}
variable {C:Cx} {st:St} {K:PV→St→Prop} {n:Nat}
def jG (k:Nat):List Nat:=(tH k).cps.toList
def aM (w:Nat) (line:List Nat):Nat→Nat→List (List Nat)×Nat
 |0,s=>([],s)
 |f+1,s=>if s+w+1≤line.length then
   if line[s+w - 3]? =some 61 then ((line.take (s+w - 2)).drop s::(aM w line f (s+w - 3)).1,(aM w line f (s+w - 3)).2)
   else if line[s+w - 2]? =some 61 then ((line.take (s+w - 1)).drop s::(aM w line f (s+w - 2)).1,(aM w line f (s+w - 2)).2)
   else (((line.take (s+w - 1)).drop s++[61])::(aM w line f (s+w - 1)).1,(aM w line f (s+w - 1)).2)
  else ([],s)
theorem gU (w line f s):aM w line (f+1) s=(if s+w+1≤line.length then
   if line[s+w - 3]? =some 61 then ((line.take (s+w - 2)).drop s::(aM w line f (s+w - 3)).1,(aM w line f (s+w - 3)).2)
   else if line[s+w - 2]? =some 61 then ((line.take (s+w - 1)).drop s::(aM w line f (s+w - 2)).1,(aM w line f (s+w - 2)).2)
   else (((line.take (s+w - 1)).drop s++[61])::(aM w line f (s+w - 1)).1,(aM w line f (s+w - 1)).2)
  else ([],s)):=rfl
def eM (w:Nat) (line:List Nat) (s:Nat):List Nat:=match line.getLast? with
 |some c=>if c=32∨c=9 then
   line.dropLast.drop s++(if line.length+2≤s+w then jG c else if line.length+1=s+w then [c,61,10] else [61,10]++jG c)
  else line.drop s
 |none=>[]
def bT (w:Nat) (line:List Nat):List (List Nat):=(aM w line line.length 0).1++[eM w line (aM w line line.length 0).2]
def nH (w:Nat) (b:List Nat) (L:List (List Nat)):List Nat:=if b=[] then [] else
 aS (L.flatMap (bT w)++(if (eI aG b).getLast? =some 13∨(eI aG b).getLast? =some 10 then [[]] else []))
theorem tZ: ∀{f s:Nat},(aM w line f s).1.length≤f:=by
 intro zi;induction zi with
 |zero=>intro s;exact ay _
 |succ f ih=>
  intro s;rw [gU];split
  ·split
   ·have:=ih (s:=s+w - 3);simp;assumption
   ·split
    ·have:=ih (s:=s+w - 2);simp;assumption
    ·have:=ih (s:=s+w - 1);simp;assumption
  ·simp
theorem wB: ∀{f s:Nat}, ∀x∈(aM w line f s).1,x.length≤line.length+1:=by
 intro zi;induction zi with
 |zero=>
  intro s;exact fun x hx=>by cases hx
 |succ f ih=>
  intro s;rw [gU];split
  ·split
   ·intro x hx
    rcases ar.mp hx with rfl|hx
    ·simp;exact jP 0x49415050360d6242841 0x200040008021 [_,_,_]
    ·exact ih x hx
   ·split
    ·intro x hx
     rcases ar.mp hx with rfl|hx
     ·simp;exact jP 0x49415050360d6142841 0x200040008021 [_,_,_]
     ·exact ih x hx
    ·intro x hx
     rcases ar.mp hx with rfl|hx
     ·simp;exact jP 0x9282360d6142841 0x200040008021 [_,_,_]
     ·exact ih x hx
  ·intro x hx;cases hx
theorem iY (k:Nat):(jG k).length=3:=rfl
theorem uD {s:Nat}:(eM w line s).length≤line.length+5:=by
 delta eM;split
 ·split
  ·rw [aj,f8,no]
   split
   ·rw [iY];exact jP 0x24a2a02a1a16258501 0x200040008001 [_,_]
   ·split
    ·simp;exact jP 0x49414284a12021 1 [_,_]
    ·rw [aj,iY];simp;exact jP 0x9282850821 1 [_,_]
  ·simp;exact jP 0x9284a2a021 1 [_,_]
 ·simp
theorem uK:(bT w line).length≤line.length+1:=by delta bT;have:=tZ (w:=w) (line:=line) (f:=line.length) (s:=0);simp;assumption
theorem uS: ∀x∈bT w line,x.length≤line.length+5:=by
 intro x hx;rcases bq.mp hx with hx|hx
 ·have:=wB x hx;exact aQ 0x928a81064a0a041 33 [_,_] this
 ·rw [bk] at hx;subst hx;exact uD
theorem pH {ls:List (List Nat)} {m:Nat} (h: ∀x∈ls,x.length≤m):ls.flatten.length≤ls.length*m:=by
 induction ls with
 |nil=>simp
 |cons a r ih=>obtain h1:=h a (.head _);obtain h2:=ih fun y hy=>h y (.tail _ hy);rw [br,aj,cn,py];exact aW 0x49418106a106440c862 1057 [_,_,_,_] h1 h2
theorem oJ: ∀{L:List (List Nat)},(L.flatMap (bT w)).length≤L.flatten.length+L.length:=by
 intro zi;induction zi with
 |nil=>exact ay _
 |cons a r ih=>have h1:=uK (w:=w) (line:=a);have h2:=ih;rw [cx,aj,br,aj,cn] at ⊢;exact aW 0x494a0a0aa20d420c94140c3251482 1057 [_,_,_,_,_] h1 h2
theorem wY {L:List (List Nat)}: ∀x∈L.flatMap (bT w),x.length≤L.flatten.length+5:=by intro x hx;refine aE (mr.mp hx) fun l hl hx=>?_;have:=uS x hx;have:=lD hl;lia
theorem Qd {f:Addr} {ps:List PV} {z k:PV} (locals:List Str) (S:bS C (n+1)) (F:Cc C.K 78 (aP (aD 22)) (aX (aD 22)) (aU (aD 22)) (.ref 71))
  (hnd:((["body","maxlinelen","eol"]:List Str)++locals).Nodup)
  (hw: ∀zq:Zs,bS (Fz (aP (aD 22)) (aX (aD 22)) (aU (aD 22)) (.ref 71) 78 ((["body","maxlinelen","eol"]:List Str)++locals) C zq) n→
   WS (Fz (aP (aD 22)) (aX (aD 22)) (aU (aD 22)) (.ref 71) 78 ((["body","maxlinelen","eol"]:List Str)++locals) C zq) (aX (aD 22)) ⟨[some z,some k,some (.str "\n")]++locals.map (fun _=>none),st.h⟩ fun fl st2=>K (iL fl) ⟨st.v,st2.h⟩):PC C (.ref 78) [z,k] st K:=by
 refine Cz locals F S.room (fun name qual kV doc pm an cdv ct=>At S ⟨hnd,?_,fun L=>?_⟩)
 ·intro x hx
  obtain this:x="body"∨x="maxlinelen"∨x="eol":=by simpa using hx
  rcases this with rfl|rfl|rfl<;>exact .inl (by decide+kernel)
 ·exact hw ⟨name,qual,kV,doc,pm,an,cdv,ct,L⟩ S.fn
set_option maxHeartbeats 1000000 in
inductive Qv (h0:List PO) (t:List Nat) (w:Nat) (L:List (List Nat)) (k:Nat) (s:St):Prop
 |mk (ln sa ls sp rm q:Option PV) (e:s=⟨[some (.str (tx t)),some (.int w),some (.str (tx [10])),some (.str (tx [61,10])),some (.int ((w:Int) - 1)),some (.ref h0.length),some (.ref (h0.length+1)),ln,sa,ls,sp,rm,q],h0++[.list (dH ((L.take k).flatMap (bT w))), .raw (Ax wE "list.append") [.ref h0.length], .list (dH L)]⟩):Qv h0 t w L k s
inductive Rf (h0:List PO) (t:List Nat) (w:Nat) (L:List (List Nat)) (rm q:Option PV) (line:List Nat) (acc0:List (List Nat)) (m:Nat) (s:St):Prop
 |mk (start:Nat) (acc:List (List Nat)) (sp:Option PV) (e:s=⟨[some (.str (tx t)),some (.int w),some (.str (tx [10])),some (.str (tx [61,10])),some (.int ((w:Int) - 1)),some (.ref h0.length),some (.ref (h0.length+1)),some (.str (tx line)),some (.int start),some (.int ((line.length:Int) - 1 - w)),sp,rm,q],h0++[.list (dH acc), .raw (Ax wE "list.append") [.ref h0.length], .list (dH L)]⟩)
   (h1:acc++(aM w line m start).1=acc0++(aM w line line.length 0).1) (h2:(aM w line m start).2=(aM w line line.length 0).2) (h3:start≤line.length) (h4:line.length≤m+start) (h5:acc.length+m≤acc0.length+line.length):Rf h0 t w L rm q line acc0 m s
theorem fQ {b:List Nat} {w:Nat} {L:List (List Nat)} (S:bS C (n+2)) (hb: ∀c∈b,c<256) (hz:b.length≤300) (hw:4≤w) (hw2:w≤1000) (hL:lw (tx (eI aG b))=L.map tx) (hL2:L.flatten.length≤900) (hL3:L.length≤901)
  (h: ∀J,K (.str (tx (nH w b L))) ⟨st.v,st.h++J⟩):PC C (.ref 78) [.str (tx b), .int w] st K:=by
 walk_at "T C,st,K,n,b,w,L S hb hz hw hw2 hL hL2 hL3 h";refine Qd (f:=0) (ps:=[]) ["soft_break","maxlinelen1","encoded_body","append","line","start","laststart","stop","room","q"] S S.kn.f_body_encode.2.2 (by decide) ?_;walk_at "I zz, SD";have htb:(tx b).length≤big:=by rw [aH];exact aC (by exact aq (by assumption) (ax _ _))
 refine s_cons ?_;ext;refine aY (fun h1=>?_) (fun _=>?_)
 ·have:(w:Int)<4:=by simpa using h1
  (exfalso;clear h1;exact aW 0x39209116221c1 33 [_] hw this)
 ext;refine cY ?_;ext;refine tR htb ?_;rw [aH];refine aY (fun h2=>?_) (fun h2=>?_)
 ·have hb0:b=[]:=by cases b with|nil=>rfl|cons a r=>simp at h2;lia
  subst hb0;ext;have:=h [];rw [be] at this;exact this
 have hne:b≠[]:=by rintro rfl;simp at h2
 ext;walk_at "k";ext;refine ⟨rfl,?_⟩;ext;have hf3: ∀k<256,(aG k).length≤3:=by decide+kernel
 refine vV SD.kn.l_quopri_body_encode_map.2 hf3 htb hb ?_;have htr:vJ aG (tx b)=tx (eI aG b):=rfl;rw [htr];have htl:(eI aG b).length≤3000:=by
  have: ∀l:List Nat,(∀c∈l,c<256)→(eI aG l).length≤l.length*3:=by
   walk_at "I l, hl";induction l with
   |nil=>simp [eI]
   |cons a r ih=>have h1:=ih fun c hc=>hl c (.tail _ hc);have h2:=hf3 a (hl a (.head _));show ((aG a).cps.toList++eI aG r).length≤_;rw [aj,cn,py,je];have:(aG a).cps.size≤3:=h2;exact aW 0x125060340e23508321c46290d01 1057 [_,_,_] h1 this
  have:=this b hb;exact aW 0x4802ee12190009624521c441 3105 [_,_] hz this
 have htne:eI aG b≠[]:=by
  cases b with
  |nil=>exact absurd rfl hne
  |cons a r=>
   walk_at "I h0";have h0:(aG a).cps.toList++eI aG r=[]:=h0;have h1:=(jq.mp h0).1;have: ∀k<256,(aG k).cps.toList≠[]:=by decide+kernel
   exact this a (hb a (.head _)) h1
 unfold nH at h;rw [if_neg hne] at h;generalize eI aG b=t at*;have htt:(tx t).length≤big:=by rw [aH];exact aC (by exact aq (by assumption) (ax _ _))
 ext;rw [vG,rA];refine gZ (by decide) ?_;rw [cL];ext;refine ⟨aC (by decide),?_⟩
 (with_reducible refine s_cons ?_)
 ((with_reducible refine' s_assign ?_ ?m1 ?m2 ?m3);(case m1=>rfl);(case m2=>rfl);(case m3=>rfl))
 refine Je ?_ (by kernel_rfl);ext;refine ⟨_,[],rfl,by simp,?_⟩;ext;refine hV S.qf (cT S.qf ?_);ext;walk_at "k";ext;refine ⟨rfl,?_⟩;refine lU htt ?_;rw [hL]
 try dsimp only
 have hlen2:(st.h++[PO.list []]++[PO.raw (Ax wE "list.append") [PV.ref st.h.length]]).length=st.h.length+2:=by simp
 rw [hlen2];refine ⟨iS (st.h.length+2),cN (xs:=dH L) S.qf ?_,?_⟩
 ·simp [dH]
 let V (ln sa ls sp rm q:Option PV):List (Option PV):=[some (.str (tx t)),some (.int w),some (.str (tx [10])),some (.str (tx [61,10])),some (.int ((w:Int) - 1)),some (.ref st.h.length),some (.ref (st.h.length+1)),ln,sa,ls,sp,rm,q];let H (acc:List (List Nat)):List PO:=st.h++[.list (dH acc), .raw (Ax wE "list.append") [.ref st.h.length], .list (dH L)];have H0 (acc:List (List Nat)):(H acc)[st.h.length]? =some (.list (dH acc)):=by show (st.h++_)[_]? =_;exact cJ
 have H1 (acc:List (List Nat)):(H acc)[st.h.length+1]? =some (.raw (Ax wE "list.append") [.ref st.h.length]):=by show (st.h++_)[_]? =_;rw [cK];rfl
 have H2 (acc:List (List Nat)):(H acc)[st.h.length+2]? =some (.list (dH L)):=by show (st.h++_)[_]? =_;rw [cK];rfl
 have HS (acc:List (List Nat)) (x:List Nat):(H acc).set st.h.length (.list (dH acc++[.str (tx x)]))=H (acc++[x]):=by show (st.h++_).set _ _=st.h++_;rw [cS,iC];rfl
 refine ⟨Qv st.h t w L,L.length,?_,?_,?_,?_,?_⟩
 ·exact ⟨none,none,none,none,none,none,by simp [V,H,dH,aB]⟩
 ·rintro k _ q ⟨_,_,_,_,_,_,rfl⟩ hq
  delta iS at hq;rw [H2] at hq;have:=(af.mp (ba hq)).1;simpa [bG] using this
 ·intro k zs q zI hq
  refine Jq fun κ1 kk1=>?_;obtain ⟨ln,sa,ls,sp,rm,qq,rfl⟩:=zI;delta iS at hq;rw [H2] at hq;have ho206:=af.mp (ba hq);walk_at "E ho206 : hlt hq";have hk:k<L.length:=by simpa [bG] using hlt
  have hq':q= .str (tx L[k]):=by rw [←hq];simp [dH,aB]
  subst hq';have hacc:(L.take (k+1)).flatMap (bT w)=(L.take k).flatMap (bT w)++bT w L[k]:=by rw [d7,ae hk,ey];simp
  have hacl:((L.take k).flatMap (bT w)).length≤1801:=by have h1:=oJ (w:=w) (L:=L);have h2:=congrArg gt (congrArg (List.flatMap (bT w)) (fq k L));rw [ey,aj] at h2;exact Cf 0x4801c25219001c224520038548e4a18894228a1 0x2108021 [_,_,_,_,_] hL2 hL3 h1 h2
  generalize hline:L[k]=line at*;generalize (L.take k).flatMap (bT w)=acc0 at*;have hll':line.length≤900:=by rw [←hline];exact aq (lD (cg hk)) hL2
  have hlb:(tx line).length≤big:=by rw [aH];exact aC (by exact aq (by assumption) (ax _ _))
  ext;refine iW hlb ?_;rw [aH];ext;let I:=Rf st.h t w L rm qq line acc0;refine iG S.qf I line.length ?_ ?_
  ·exact ⟨0,acc0,sp,rfl,rfl,rfl,by exact cz _,by exact ay _,by exact ay _⟩
  intro m zs zI;refine Ox fun κ2 kk2=>?_;obtain ⟨start,acc,sp,rfl,hres,hres2,hs1,hs2,hac⟩:=zI;ext;refine aY (fun hin=>?_) (fun hout=>?_)
  ·have hin:start+w+1≤line.length:=by simp at hin;exact aQ 0x486a0a1420d56e12c2870dc1 33 [_,_,_] hin
   cases m with
   |zero=>(exfalso;lia)
   |succ m=>
   have hst:aM w line (m+1) start=if line[start+w - 3]? =some 61 then ((line.take (start+w - 2)).drop start::(aM w line m (start+w - 3)).1,(aM w line m (start+w - 3)).2)
     else if line[start+w - 2]? =some 61 then ((line.take (start+w - 1)).drop start::(aM w line m (start+w - 2)).1,(aM w line m (start+w - 2)).2)
     else (((line.take (start+w - 1)).drop start++[61])::(aM w line m (start+w - 1)).1,(aM w line m (start+w - 1)).2):=by rw [gU,if_pos hin]
   rw [hst] at hres hres2;have hk3:start+w - 3<line.length:=by exact aQ 0x98d634284190d4142841 0x2008401 [_,_,_] hin
   have hk2:start+w - 2<line.length:=by exact aQ 0x98d624284190d4142841 0x2008401 [_,_,_] hin
   ext;refine Fm (k:=start+w - 3) (by exact aQ 0x5dcb1a1420ac4852c28709c190888 0x4210040008001 [_,_] hw) (by assumption) hk3 ?_;ext;rw [nX];refine aY (fun h3=>?_) (fun h3=>?_)
   ·have h3:line[start+w - 3]? =some 61:=by rw [ae hk3];simpa using h3
    rw [if_pos h3] at hres hres2;ext;refine gE wE (.inl rfl) ?_ (by rfl) (by rfl) (by rfl);ext;refine ⟨_,rfl,?_⟩;ext;refine eU (lo:=some (start:Int)) (hi:=some ((start+w - 2:Nat):Int)) rfl (by show some (some _)=some (some _);congr 2;exact aQ 0x5dcb121420ac2852c28709c190888 0x4210040008001 [_,_] hw) hlb ?_;rw [dA,lV];ext;refine ⟨_,_,H1 _,eJ (H1 _) (H0 _) (by rw [bG];exact aC (by (exact hW 0x4861a8121900384a4520038448e4a1894a0a081 33825 [_,_,_,_] hacl hll' hac))) ?_⟩
    try dsimp only
    rw [HS];ext;have e:(start:Int)+((w:Int) - 1) - 2=((start+w - 3:Nat):Int):=by exact aQ 0x5dcb1a1420ac4852c28709c190888 0x4210040008001 [_,_] hw
    rw [e];exact .inl ⟨m,by exact ch _,start+w - 3,acc++[(line.take (start+w - 2)).drop start],some (.int ((start:Int)+((w:Int) - 1))),rfl,by simpa using hres,hres2,by exact de (by assumption),by exact aW 0x24a58d0a20c41910889286a0a041 0x802008401 [_,_,_,_] hw hs2,by simp;exact aQ 0x92883509414064a20d4a0a041 33 [_,_,_,_] hac⟩
   ·have h3: ¬line[start+w - 3]? =some 61:=by rw [ae hk3];simpa using h3
    rw [if_neg h3] at hres hres2;ext;refine Fm (k:=start+w - 2) (by exact aQ 0x5dcb121420ac2852c28709c190888 0x4210040008001 [_,_] hw) (by assumption) hk2 ?_;ext;rw [nX];refine aY (fun h4=>?_) (fun h4=>?_)
    ·have h4:line[start+w - 2]? =some 61:=by rw [ae hk2];simpa using h4
     rw [if_pos h4] at hres hres2;ext;refine gE wE (.inl rfl) ?_ (by rfl) (by rfl) (by rfl);ext;refine ⟨_,rfl,?_⟩;ext;refine eU (lo:=some (start:Int)) (hi:=some ((start+w - 1:Nat):Int)) rfl (by show some (some _)=some (some _);congr 2;exact aQ 0xbb9614284152c28709c190888 0x4210040008001 [_,_] hw) hlb ?_;rw [dA,lV];ext;refine ⟨_,_,H1 _,eJ (H1 _) (H0 _) (by rw [bG];exact aC (by (exact hW 0x4861a8121900384a4520038448e4a1894a0a081 33825 [_,_,_,_] hacl hll' hac))) ?_⟩
     try dsimp only
     rw [HS];ext;have e:(start:Int)+((w:Int) - 1) - 1=((start+w - 2:Nat):Int):=by exact aQ 0x5dcb121420ac2852c28709c190888 0x4210040008001 [_,_] hw
     rw [e];exact .inl ⟨m,by exact ch _,start+w - 2,acc++[(line.take (start+w - 1)).drop start],some (.int ((start:Int)+((w:Int) - 1))),rfl,by simpa using hres,hres2,by exact de (by assumption),by exact aW 0x24a5890a20c41910889286a0a041 0x802008401 [_,_,_,_] hw hs2,by simp;exact aQ 0x92883509414064a20d4a0a041 33 [_,_,_,_] hac⟩
    ·have h4: ¬line[start+w - 2]? =some 61:=by rw [ae hk2];simpa using h4
     rw [if_neg h4] at hres hres2;ext;refine gE wE (.inl rfl) ?_ (by rfl) (by rfl) (by rfl);ext;refine ⟨_,rfl,?_⟩;ext;refine eU (lo:=some (start:Int)) (hi:=some ((start+w - 1:Nat):Int)) rfl (by show some (some _)=some (some _);congr 2;exact aQ 0xbb9614284152c28709c190888 0x4210040008001 [_,_] hw) hlb ?_;rw [dA,lV];ext;refine gZ (by rw [aH,aH];simp;(exact aQ 0x4941f423f4b06b0a1420c800e1123 0x21000010800108021 [_,_,_] hll')) ?_;rw [cL];ext;refine ⟨_,_,H1 _,eJ (H1 _) (H0 _) (by rw [bG];exact aC (by (exact hW 0x4861a8121900384a4520038448e4a1894a0a081 33825 [_,_,_,_] hacl hll' hac))) ?_⟩
     try dsimp only
     rw [HS];ext;have e:(start:Int)+((w:Int) - 1)=((start+w - 1:Nat):Int):=by exact aQ 0xbb9614284152c28709c190888 0x4210040008001 [_,_] hw
     rw [e];exact .inl ⟨m,by exact ch _,start+w - 1,acc++[(line.take (start+w - 1)).drop start++[61]],some (.int ((start+w - 1:Nat):Int)),rfl,by simpa using hres,hres2,by lia,by exact aW 0x24a5850a20c41910889286a0a041 0x802008401 [_,_,_,_] hw hs2,by simp;exact aQ 0x92883509414064a20d4a0a041 33 [_,_,_,_] hac⟩
  ·have hout: ¬start+w+1≤line.length:=by simp at hout;exact aQ 0xdc86a0a1420d9c15b84b0a1c3 33 [_,_,_] hout
   have hst:aM w line m start=([],start):=by
    cases m with
    |zero=>rfl
    |succ m=>rw [gU,if_neg hout]
   rw [hst] at hres hres2;rw [be] at hres;have hres2:start=(aM w line line.length 0).2:=hres2;have hfin:acc0++bT w line=acc++[eM w line start]:=by delta bT;rw [←aa, ←hres, ←hres2]
   refine s_nil ?_
   try dsimp only
   refine s_cons (s_if (WT.val (decide (line.getLast? =some 32∨line.getLast? =some 9)) ?_ ?_))
   ·refine t_and ?_
    refine cY ?_;ext;refine tR hlb ?_;rw [aH];refine aY (fun h3=>?_) (fun h3=>?_)
    ·have hlne:line≠[]:=by rintro rfl;simp at h3
     ext;refine mM (by assumption) hlne ?_;ext;rw [Mk,eE,g7 hlne];have e:decide (line.getLast hlne∈[32,9])=decide (some (line.getLast hlne)=some 32∨some (line.getLast hlne)=some 9):=by simp
     rw [e];refine aY (fun h4=>?_) (fun h4=>?_)
     ·ext
      exact ⟨h4.symm,rfl⟩
     ·exact ⟨h4.symm,rfl⟩
    ·have hl0:line=[]:=by cases line with|nil=>rfl|cons a r=>simp at h3;lia
     subst hl0;exact ⟨rfl,rfl⟩
   refine aY (fun h3=>?_) (fun h3=>?_)
   ·have h3:line.getLast? =some 32∨line.getLast? =some 9:=of_decide_eq_true h3
    have hlne:line≠[]:=by rintro rfl;simp at h3
    have hlp:=gd.mpr hlne;obtain ⟨c,hc⟩: ∃c,line.getLast hlne=c:=⟨_,rfl⟩;have hgl:line.getLast? =some c:=by rw [g7 hlne,hc]
    have hcc:c=32∨c=9:=by rw [hgl] at h3;simpa using h3
    have hrow:eM w line start=line.dropLast.drop start++(if line.length+2≤start+w then jG c else if line.length+1=start+w then [c,61,10] else [61,10]++jG c):=by delta eM;rw [hgl];dsimp only;rw [if_pos hcc]
    rw [hrow] at hfin;have hc256:c<256:=by exact aQ 0x4c0040121d51280d00008121 0x108021 [_] hcc
    ext;refine aY (fun h5=>?_) (fun h5=>?_)
    ·have h5:line.length+2≤start+w:=by simp at h5;exact aQ 0x24a18942406ab5b86b0a1c170868 33 [_,_,_] h5
     rw [if_pos h5] at hfin;ext;refine mM (by assumption) hlne ?_;rw [hc];ext;refine vZ SD hc256 ?_;ext;refine gE wE (.inl rfl) ?_ (by rfl) (by rfl) (by rfl);ext;refine ⟨_,rfl,?_⟩;ext;refine eU (lo:=some (start:Int)) (hi:=some (-1)) rfl rfl hlb ?_;rw [dA,oB];ext;have hx:tH c=tx (jG c):=(mC _).symm;rw [hx];refine gZ (by rw [aH,aH,iY];simp;exact aQ 0x49414285e847a90c800e1121 33 [_,_] hll') ?_;rw [cL];ext;refine ⟨_,_,H1 _,eJ (H1 _) (H0 _) (by rw [bG];exact aC (by exact hW 0x90c35024320070948a40070891c94312881 33825 [_,_,_,_] hacl hll' hac)) ?_⟩
     try dsimp only
     rw [HS];ext;exact .inl ⟨_,_,_,_,_,_,by rw [hacc,hfin];rfl⟩
    ·have h5: ¬line.length+2≤start+w:=by simp at h5;exact aQ 0x6e4a18942406c342d6e1ac28705c2 33 [_,_,_] h5
     rw [if_neg h5] at hfin;ext;refine aY (fun h6=>?_) (fun h6=>?_)
     ·have h6:line.length+1=start+w:=by simp at h6;exact aQ 0x28a18941406e242d6e1ac28705c2 0x2008021 [_,_,_] h6
      rw [if_pos h6] at hfin;ext;refine mM (by assumption) hlne ?_;rw [hc];ext;refine gZ (by show 1+2≤1000000;decide) ?_;rw [cL];ext;refine gE wE (.inl rfl) ?_ (by rfl) (by rfl) (by rfl);ext;refine ⟨_,rfl,?_⟩;ext;refine eU (lo:=some (start:Int)) (hi:=some (-1)) rfl rfl hlb ?_;rw [dA,oB];ext;refine gZ (by rw [aH,aH];simp;exact aQ 0x49414285e847a90c800e1121 33 [_,_] hll') ?_;rw [cL];ext;refine ⟨_,_,H1 _,eJ (H1 _) (H0 _) (by rw [bG];exact aC (by (exact hW 0x90c35024320070948a40070891c94312881 33825 [_,_,_,_] hacl hll' hac))) ?_⟩
      try dsimp only
      rw [HS];ext;exact .inl ⟨_,_,_,_,_,_,by rw [hacc,hfin];rfl⟩
     ·have h6: ¬line.length+1=start+w:=by simp at h6;exact aQ 0xdd143128280eee242d6e1ac28705c2 0x2100401 [_,_,_] h6
      rw [if_neg h6] at hfin;ext;refine mM (by assumption) hlne ?_;rw [hc];ext;refine vZ SD hc256 ?_;have hx:tH c=tx (jG c):=(mC _).symm;rw [hx];refine gZ (by rw [aH,aH,iY];decide) ?_;rw [cL];ext;refine gE wE (.inl rfl) ?_ (by rfl) (by rfl) (by rfl);ext;refine ⟨_,rfl,?_⟩;ext;refine eU (lo:=some (start:Int)) (hi:=some (-1)) rfl rfl hlb ?_;rw [dA,oB];ext;refine gZ (by rw [aH,aH,aj,iY];simp;exact aQ 0x49414285e847690c800e1121 33 [_,_] hll') ?_;rw [cL];ext;refine ⟨_,_,H1 _,eJ (H1 _) (H0 _) (by rw [bG];exact aC (by (exact hW 0x90c35024320070948a40070891c94312881 33825 [_,_,_,_] hacl hll' hac))) ?_⟩
      try dsimp only
      rw [HS];ext;exact .inl ⟨_,_,_,_,_,_,by rw [hacc,hfin];rfl⟩
   ·have h3: ¬(line.getLast? =some 32∨line.getLast? =some 9):=of_decide_eq_false h3
    have hrow:eM w line start=line.drop start:=by
     delta eM;split
     ·rename_i c hc
      rw [hc] at h3;rw [if_neg (by simpa using h3)]
     ·rename_i hc
      have:line=[]:=List.getLast?_eq_none_iff.mp hc;rw [this,List.drop_nil]
    rw [hrow] at hfin;ext;refine gE wE (.inl rfl) ?_ (by rfl) (by rfl) (by rfl);ext;refine ⟨_,rfl,?_⟩;ext;refine eU (lo:=some (start:Int)) (hi:=none) rfl rfl hlb ?_;rw [dA,gR];ext;refine ⟨_,_,H1 _,eJ (H1 _) (H0 _) (by rw [bG];exact aC (by exact hW 0x90c35024320070948a40070891c94312881 33825 [_,_,_,_] hacl hll' hac)) ?_⟩
    try dsimp only
    rw [HS];ext;exact .inl ⟨_,_,_,_,_,_,by rw [hacc,hfin]⟩
 ·rintro k _ ⟨_,_,_,_,_,_,rfl⟩
  delta iS;rw [H2];simp
 ·rintro k _ ⟨ln,sa,ls,sp,rm,q,rfl⟩ hq
  delta iS at hq;rw [H2] at hq;have hk:=bz.mp (ba hq);rw [bG] at hk;rw [cf hk];have hal:=oJ (w:=w) (L:=L);have har:=wY (w:=w) (L:=L);generalize L.flatMap (bT w)=all at*;ext;refine mM (by assumption) htne ?_;ext;have hcr:("\r\n":Str)=tx [13,10]:=by decide+kernel
  rw [hcr,eE];have e:decide (t.getLast htne∈[13,10])=decide (t.getLast? =some 13∨t.getLast? =some 10):=by rw [g7 htne];simp
  rw [e];have hflat (ls:List (List Nat)) (h1:ls.length≤1802) (h2: ∀x∈ls,x.length≤905):ls.flatten.length+ls.length≤16000000:=by have h3:=pH h2;have h4:ls.length*905≤1802*905:=Nat.mul_le_mul_right _ h1;lia
  refine aY (fun h5=>?_) (fun h5=>?_)
  ·rw [if_pos (of_decide_eq_true h5)] at h
   ext;refine gE wE (.inl rfl) ?_ (by rfl) (by rfl) (by rfl);ext;refine ⟨_,rfl,?_⟩;ext;rw [pI];refine ⟨_,_,H1 _,eJ (H1 _) (H0 _) (by rw [bG];exact aC (by exact hW 0x2430d4090c800e11229001c2a47250c41 33825 [_,_,_] hL2 hL3 hal)) ?_⟩
   try dsimp only
   rw [HS];ext;walk_at "k";ext;refine ⟨rfl,?_⟩;ext;rw [←rA];refine tL (H0 _) (hflat _ (by simp;exact hW 0x2400e1290c800e11229001c2a47250c41 33825 [_,_,_] hL2 hL3 hal) ?_) ?_
   ·walk_at "I x, hx"
    rcases bq.mp hx with hx|hx
    ·have:=har x hx;exact aW 0x9001c4a4320038448a4a2a041 1057 [_,_] hL2 this
    ·rw [bk] at hx;subst hx;exact cz _
   ·exact h _
  ·rw [if_neg (of_decide_eq_false h5),be] at h
   ext;walk_at "k";ext;refine ⟨rfl,?_⟩;ext;rw [←rA];refine tL (H0 _) (hflat _ (by exact hW 0x2400e1490c800e11229001c2a47250c41 33825 [_,_,_] hL2 hL3 hal) ?_) ?_
   ·walk_at "I x, hx"
    have:=har x hx;exact aW 0x9001c4a4320038448a4a2a041 1057 [_,_] hL2 this
   ·exact h _
end
end
section
section
variable {C:Cx} {st:St} {K:PV→St→Prop} {n:Nat}
theorem Qb {z:PV} (locals:List Str) (S:bS C (n+1)) (F:Cc C.K 86 (aP (aD 23)) (aX (aD 23)) (aU (aD 23)) (.ref 79))
  (hnd:((["encoded","eol"]:List Str)++locals).Nodup)
  (hw: ∀zq:Zs,bS (Fz (aP (aD 23)) (aX (aD 23)) (aU (aD 23)) (.ref 79) 86 ((["encoded","eol"]:List Str)++locals) C zq) n→
   WS (Fz (aP (aD 23)) (aX (aD 23)) (aU (aD 23)) (.ref 79) 86 ((["encoded","eol"]:List Str)++locals) C zq) (aX (aD 23)) ⟨[some z,some (.str "\n")]++locals.map (fun _=>none),st.h⟩ fun fl st2=>K (iL fl) ⟨st.v,st2.h⟩):PC C (.ref 86) [z] st K:=by
 refine Cz locals F S.room (fun name qual kV doc pm an cdv ct=>Bx S ⟨hnd,?_,fun L=>?_⟩)
 ·intro x hx
  obtain this:x="encoded"∨x="eol":=by simpa using hx
  rcases this with rfl|rfl<;>exact .inl (by decide+kernel)
 ·exact hw ⟨name,qual,kV,doc,pm,an,cdv,ct,L⟩ S.fn
theorem oL: ∀{L:List (List Nat)},(L.flatMap bJ).length≤L.flatten.length+L.length:=by
 intro zi;induction zi with
 |nil=>exact ay _
 |cons a r ih=>have h1:=tT a;have h2:=ih;rw [cx,aj,br,aj,cn];exact aW 0x494a0a0aa20d420c94140c3251482 1057 [_,_,_,_,_] h1 h2
theorem Eh (c:Nat):dG [c]=if c=61 then [] else [c,10]:=by conv=>lhs;unfold dG
theorem Jf (c a:Nat):dG [c,a]=c::dG [a]:=by conv=>lhs;unfold dG
theorem uV (c a b:Nat) (r:List Nat):dG (c::a::b::r)=if c=61∧kB a=true∧kB b=true then (hv a*16+hv b)::(if r=[] then [10] else dG r) else c::dG (a::b::r):=by conv=>lhs;unfold dG
theorem Bb {l:List Nat} {i:Nat} (hi:i<l.length):dG (l.drop i)=
  (if l[i]=61 then (if i+1=l.length then [] else if i+2<l.length∧kB (l.getD (i+1) 0)=true∧kB (l.getD (i+2) 0)=true then (hv (l.getD (i+1) 0)*16+hv (l.getD (i+2) 0))::(if i+3=l.length then [10] else dG (l.drop (i+3))) else l[i]::(if i+1=l.length then [10] else dG (l.drop (i+1))))
   else l[i]::(if i+1=l.length then [10] else dG (l.drop (i+1)))):=by
 walk_at "T l,i hi";obtain e0:l.drop i=l[i]::l.drop (i+1):=ck hi;rw [e0];by_cases h1:i+1=l.length
 ·have e1:l.drop (i+1)=[]:=dt (by simp_all)
  rw [e1,Eh];simp only [h1,if_true]
 ·have hi1:i+1<l.length:=by exact kq (by assumption) (by assumption)
  have e1:l.drop (i+1)=l[i+1]::l.drop (i+2):=ck hi1;obtain g1:l.getD (i+1) 0=l[i+1]:=by rw [ao,ae hi1];rfl
  rw [g1];simp only [h1,if_false];by_cases h2:i+2<l.length
  ·have e2:l.drop (i+2)=l[i+2]::l.drop (i+3):=ck h2
   obtain g2:l.getD (i+2) 0=l[i+2]:=by rw [ao,ae h2];rfl
   obtain e3:(l.drop (i+3)=[])=(i+3=l.length):=by rw [List.drop_eq_nil_iff];exact propext ⟨fun h=>by exact aW 0x28250d01989424064a1a022 0x2008021 [_,_] h2 h,fun h=>by simp_all⟩
   rw [g2,e1,e2,uV];simp only [h2,true_and,e3];by_cases h3:l[i]=61
   ·simp only [h3,true_and,if_true]
   ·simp only [h3,false_and,if_false]
  ·obtain e2:l.drop (i+2)=[]:=dt (by exact fe.mp (by assumption))
   rw [e1,e2];obtain h4: ¬(i+2<l.length∧kB l[i+1]=true∧kB (l.getD (i+2) 0)=true):=fun h=>h2 h.1;rw [if_neg h4,Jf];split<;>rfl
set_option maxHeartbeats 1000000 in
inductive Qz (h0:List PO) (e:List Nat) (L:List (List Nat)) (k:Nat) (s:St):Prop
 |mk (ln i nn c:Option PV) (q:s=⟨[some (.str (tx e)),some (.str (tx [10])),some (.str (tx ((L.take k).flatMap bJ))),ln,i,nn,c],h0++[.list (dH L)]⟩):Qz h0 e L k s
inductive Qh (h0:List PO) (e:List Nat) (L:List (List Nat)) (line acc0:List Nat) (m:Nat) (s:St):Prop
 |mk (i:Nat) (dec:List Nat) (c:Option PV) (q:s=⟨[some (.str (tx e)),some (.str (tx [10])),some (.str (tx dec)),some (.str (tx line)),some (.int i),some (.int line.length),c],h0++[.list (dH L)]⟩)
   (h1:dec++dG (line.drop i)=acc0++dG line) (h2:i≤line.length) (h3:line.length≤m+i):Qh h0 e L line acc0 m s
theorem mP {e:List Nat} {L:List (List Nat)} (S:bS C (n+2)) (hz:e.length≤5000) (hL:lw (tx e)=L.map tx) (hL2:L.flatten.length≤5000) (hL3:L.length≤5001)
  (h: ∀J,K (.str (tx (pD e L))) ⟨st.v,st.h++J⟩):PC C (.ref 86) [.str (tx e)] st K:=by
 walk_at "T C,st,K,n,e,L S hz hL hL2 hL3 h";refine Qb ["decoded","line","i","n","c"] S S.kn.f_decode.2.2 (by decide) ?_;walk_at "I zz, SD";have htb:(tx e).length≤big:=by rw [aH];exact aC (by exact aq (by assumption) (ax _ _))
 refine s_cons ?_;ext;refine cY ?_;ext;refine tR htb ?_;rw [aH];refine aY (fun h2=>?_) (fun h2=>?_)
 ·obtain he0:e=[]:=by cases e with|nil=>rfl|cons a r=>simp at h2;lia
  subst he0;ext;have:=h [];rw [be] at this;exact this
 have hne:e≠[]:=by rintro rfl;simp at h2
 delta pD at h;rw [if_neg hne] at h;ext;refine hV S.qf (cT S.qf ?_);ext;walk_at "k";ext;refine ⟨rfl,?_⟩;refine lU htb ?_;rw [hL,rA,pI]
 try dsimp only
 refine ⟨iS st.h.length,cN (xs:=dH L) S.qf ?_,?_⟩
 ·simp [dH]
 let V (dec:List Nat) (ln i nn c:Option PV):List (Option PV):=[some (.str (tx e)),some (.str (tx [10])),some (.str (tx dec)),ln,i,nn,c];let H:List PO:=st.h++[.list (dH L)];have H0:H[st.h.length]? =some (.list (dH L)):=by show (st.h++_)[_]? =_;exact cJ
 refine ⟨Qz st.h e L,L.length,?_,?_,?_,?_,?_⟩
 ·exact ⟨none,none,none,none,by rfl⟩
 ·rintro k _ q ⟨_,_,_,_,rfl⟩ hq
  delta iS at hq;rw [H0] at hq;have:=(af.mp (ba hq)).1;simpa [bG] using this
 ·intro k zs q zI hq
  refine Jq fun κ1 kk1=>?_;obtain ⟨ln,i,nn,c,rfl⟩:=zI;delta iS at hq;rw [H0] at hq;obtain ho99:=af.mp (ba hq);walk_at "E ho99 : hlt hq";have hk:k<L.length:=by simpa [bG] using hlt
  obtain hq':q= .str (tx L[k]):=by rw [←hq];simp [dH,aB]
  subst hq';have hacc:(L.take (k+1)).flatMap bJ=(L.take k).flatMap bJ++bJ L[k]:=by rw [d7,ae hk,ey];simp
  have hacl:((L.take k).flatMap bJ).length≤10001:=by obtain h1:=oL (L:=L);have h2:=congrArg gt (congrArg (List.flatMap bJ) (fq k L));rw [ey,aj] at h2;exact Cf 0x4809c45219009c424520138948e4a18894228a1 0x2108021 [_,_,_,_,_] hL2 hL3 h1 h2
  obtain hll:L[k].length≤5000:=aq (lD (cg hk)) hL2;have hdl0:bJ L[k]=if dY L[k]=[] then [10] else dG (dY L[k]):=rfl;rw [hdl0] at hacc;clear hdl0;obtain hrl:=mZ L[k];generalize hline:L[k]=line0 at*;generalize (L.take k).flatMap bJ=acc0 at*;ext;walk_at "k";ext;refine ⟨rfl,?_⟩;refine Ff (by rw [aH];exact aC (by exact aq (by assumption) (ax _ _))) ?_;rw [Av];generalize dY line0=line at*;have hlb:(tx line).length≤big:=by rw [aH];exact aC (by exact aW 0x12186a0486402710914841 1057 [_,_] hll hrl)
  ext;refine cY ?_;ext;refine tR hlb ?_;rw [aH];refine aY (fun h3=>?_) (fun h3=>?_)
  ·obtain hl0:line=[]:=by cases line with|nil=>rfl|cons a r=>simp at h3;lia
   rw [if_pos hl0] at hacc;ext;refine rI (by rw [aH,aH];show _+1≤_;exact co (by assumption) (by decide)) ?_;rw [cL];ext;exact .inl ⟨_,_,_,_,by rw [hacc];rfl⟩
  obtain hlne:line≠[]:=by rintro rfl;simp at h3
  rw [if_neg hlne] at hacc;have hdl:=jC line;ext;refine iW hlb ?_;rw [aH];ext;let I:=Qh st.h e L line acc0;refine iG S.qf I line.length ?_ ?_
  ·exact ⟨0,acc0,c,rfl,rfl,by exact cz _,by exact ay _⟩
  intro m zs zI;refine Ox fun κ2 kk2=>?_;obtain ⟨i,dec,c,rfl,hres,hi1,hi2⟩:=zI;have hdec:dec.length≤15002:=by have:=congrArg gt hres;rw [aj,aj] at this;lia
  ext;refine aY (fun hin=>?_) (fun hout=>?_)
  ·have hin:i<line.length:=by simpa using hin
   rw [Bb hin] at hres;ext;refine Fm (k:=i) rfl (by assumption) hin ?_;ext;rw [vG,Lg];refine aY (fun h4=>?_) (fun h4=>?_)
   ·have h4: ¬line[i]=61:=by simpa using h4
    rw [if_neg h4] at hres;ext;refine rI (by rw [aH,aH];show _+1≤_;exact co (by assumption) (by decide)) ?_;rw [cL];ext;refine aY (fun h6=>?_) (fun h6=>?_)
    ·have h6:i+1=line.length:=by simp at h6;exact aQ 0x28250501bb84a0a1c1 0x108401 [_,_] h6
     rw [if_pos h6] at hres;ext;refine rI (by rw [aH,aH,aj];show _+1+1≤_;lia) ?_;rw [cL];ext;have e2:line.drop (i+1)=[]:=dt (by simp_all);exact .inl ⟨m - 1,by exact aW 0x130ac280c94308a8250503 0x200802000001 [_,_,_] hi2 h6,i+1,dec++[line[i]]++[10],_,rfl,by rw [e2, ←hres];simp [dG],by assumption,by simp_all⟩
    ·have h6: ¬i+1=line.length:=by simp at h6;exact aQ 0xdd04a0a03bbb84a0a1c1 0x2008420 [_,_] h6
     rw [if_neg h6] at hres;ext;exact .inl ⟨m - 1,by exact aW 0x261585019286114c43 0x840100001 [_,_,_] hi2 hin,i+1,dec++[line[i]],_,rfl,by rw [←hres];exact aa ..,by assumption,by exact aQ 0x9294140d614083250c41 0x2108401 [_,_,_] hi2⟩
   ·obtain h4:line[i]=61:=by simpa using h4
    rw [if_pos h4] at hres;ext;refine aY (fun h5=>?_) (fun h5=>?_)
    ·have h5:i+1=line.length:=by simp at h5;exact aQ 0x28250501bb84a0a1c1 0x108401 [_,_] h5
     rw [if_pos h5] at hres;ext;have e2:line.drop (i+1)=[]:=dt (by simp_all);exact .inl ⟨m - 1,by exact aW 0x130ac280c94308a8250503 0x200802000001 [_,_,_] hi2 h5,i+1,dec,_,rfl,by rw [e2];exact hres,by assumption,by simp_all⟩
    ·have h5: ¬i+1=line.length:=by simp at h5;exact aQ 0xdd04a0a03bbb84a0a1c1 0x2008420 [_,_] h5
     rw [if_neg h5] at hres
     try dsimp only
     refine s_cons (s_if (WT.val (decide (i+2<line.length∧kB (line.getD (i+1) 0)=true∧kB (line.getD (i+2) 0)=true)) ?_ ?_))
     ·ext
      refine aY (fun h7=>?_) (fun h7=>?_)
      ·have h7:i+2<line.length:=by simp at h7;exact lh.mp (by assumption)
       obtain g1:line.getD (i+1) 0=line[i+1]:=by rw [ao,ae (by exact kq (by assumption) (by assumption))];rfl
       obtain g2:line.getD (i+2) 0=line[i+2]:=by rw [ao,ae h7];rfl
       ext;refine Fm (k:=i+1) rfl (by assumption) (by exact de (by assumption)) ?_;ext;rw [Cg,eE];have x1:decide (line[i+1]∈hU)=kB (line.getD (i+1) 0):=by rw [g1];rfl
       rw [x1];refine aY (fun h8=>?_) (fun h8=>?_)
       ·ext
        refine Fm (k:=i+2) rfl (by assumption) h7 ?_;ext;rw [Cg,eE];obtain x2:decide (line[i+2]∈hU)=kB (line.getD (i+2) 0):=by rw [g2];rfl
        rw [x2];refine aY (fun h9=>?_) (fun h9=>?_)
        ·ext
         exact ⟨(decide_eq_true ⟨h7,h8,h9⟩).symm,rfl⟩
        ·exact ⟨(decide_eq_false fun h=>by rw [h9] at h;exact cr h.2.2).symm,rfl⟩
       ·exact ⟨(decide_eq_false fun h=>by rw [h8] at h;exact cr h.2.1).symm,rfl⟩
      ·have h7: ¬i+2<line.length:=by simp at h7;exact aQ 0x6e6250901aa848705c2 33 [_,_] h7
       exact ⟨(decide_eq_false fun h=>h7 h.1).symm,rfl⟩
     ·refine aY (fun h7=>?_) (fun h7=>?_)
      ·have h7:=of_decide_eq_true h7
       rw [if_pos h7] at hres;obtain ⟨h7,h8,h9⟩:=h7;obtain g1:line.getD (i+1) 0=line[i+1]:=by rw [ao,ae (by exact kq (by assumption) (by assumption))];rfl
       obtain g2:line.getD (i+2) 0=line[i+2]:=by rw [ao,ae h7];rfl
       rw [g1] at h8 hres;rw [g2] at h9 hres;ext;refine eU (lo:=some (i:Int)) (hi:=some ((i+3:Nat):Int)) rfl rfl hlb ?_;rw [dA,lV];obtain e3:(line.take (i+3)).drop i=[line[i],line[i+1],line[i+2]]:=by rw [mh,ck hin,ck (show i+1<line.length by exact de (by assumption)),ck (show i+2<line.length by assumption)];rw [show i+3 - i=3 by simp];rfl
       rw [e3];ext;refine xS SD (of_decide_eq_true h8) (of_decide_eq_true h9) ?_;rw [Kc];refine rI (by rw [aH,aH];show _+1≤_;exact co (by assumption) (by decide)) ?_;rw [cL];ext;refine aY (fun h6=>?_) (fun h6=>?_)
       ·have h6:i+3=line.length:=by simp at h6;exact aQ 0x28250d01bb84a1a1c1 0x108401 [_,_] h6
        rw [if_pos h6] at hres;ext;refine rI (by rw [aH,aH,aj];show _+1+1≤_;lia) ?_;rw [cL];ext;obtain e2:line.drop (i+3)=[]:=dt (by simp_all);exact .inl ⟨m - 1,by exact aW 0x130ac280c94308a6250903 0x840100001 [_,_,_] hi2 h7,i+3,dec++[hv line[i+1]*16+hv line[i+2]]++[10],_,rfl,by rw [e2, ←hres];simp [dG],by assumption,by simp_all⟩
       ·have h6: ¬i+3=line.length:=by simp at h6;exact aQ 0xdd04a1a03bbb84a1a1c1 0x2008420 [_,_] h6
        rw [if_neg h6] at hres;ext;exact .inl ⟨m - 1,by exact aW 0x130ac280c94308a6250903 0x840100001 [_,_,_] hi2 h7,i+3,dec++[hv line[i+1]*16+hv line[i+2]],_,rfl,by rw [←hres];exact aa ..,by assumption,by exact aQ 0x9294340d614083250c41 0x2108401 [_,_,_] hi2⟩
      ·rw [if_neg (of_decide_eq_false h7)] at hres
       ext;refine rI (by rw [aH,aH];show _+1≤_;exact co (by assumption) (by decide)) ?_;rw [cL];ext;refine aY (fun h6=>?_) (fun h6=>?_)
       ·have h6:i+1=line.length:=by simp at h6;simp_all
        exact absurd h6 h5
       ·rw [if_neg h5] at hres
        ext;exact .inl ⟨m - 1,by exact aW 0x261585019286114c43 0x840100001 [_,_,_] hi2 hin,i+1,dec++[line[i]],_,rfl,by rw [←hres];exact aa ..,by assumption,by exact aQ 0x9294140d614083250c41 0x2108401 [_,_,_] hi2⟩
  ·obtain hout:line.length≤i:=by simpa using hout
   obtain e0:line.drop i=[]:=dt hout;rw [e0] at hres;have hres:dec++[]=acc0++dG line:=hres;rw [be] at hres;ext;exact .inl ⟨_,_,_,_,by rw [hacc, ←hres]⟩
 ·rintro k _ ⟨_,_,_,_,rfl⟩
  delta iS;rw [H0];simp
 ·rintro k _ ⟨ln,i,nn,c,rfl⟩ hq
  delta iS at hq;rw [H0] at hq;have hk:=bz.mp (ba hq);rw [bG] at hk;rw [cf hk];obtain hal:=oL (L:=L);dsimp only at h;generalize L.flatMap bJ=all at*;obtain hdb:(tx all).length≤big:=by rw [aH];exact aC (by exact hW 0x2430d4090c804e21229009c4a47250c41 33825 [_,_,_] hL2 hL3 hal)
  refine s_cons (s_if (WT.val (decide (¬(e.getLast? =some 13∨e.getLast? =some 10)∧all.getLast? =some 10)) ?_ ?_))
  ·ext
   refine mM (by assumption) hne ?_;ext;obtain hcr:("\r\n":Str)=tx [13,10]:=by decide+kernel
   rw [hcr,eE];obtain x1:(!decide (e.getLast hne∈[13,10]))= !decide (e.getLast? =some 13∨e.getLast? =some 10):=by rw [g7 hne];simp
   rw [x1];refine aY (fun h5=>?_) (fun h5=>?_)
   ·have h5: ¬(e.getLast? =some 13∨e.getLast? =some 10):=by rw [la,decide_eq_false_iff_not] at h5;exact h5
    ext;refine cY ?_;walk_at "k";ext;refine ⟨rfl,?_⟩;ext;refine xE ?_;rw [Fw];ext;refine aY (fun h6=>?_) (fun h6=>?_)
    ·ext
     exact ⟨(decide_eq_true ⟨h5,of_decide_eq_true h6⟩).symm,rfl⟩
    ·exact ⟨(decide_eq_false fun h=>(of_decide_eq_false h6) h.2).symm,rfl⟩
   ·have h5:(e.getLast? =some 13∨e.getLast? =some 10):=by rw [te,decide_eq_true_eq] at h5;exact h5
    exact ⟨(decide_eq_false fun h=>h.1 h5).symm,rfl⟩
  ·refine aY (fun h5=>?_) (fun h5=>?_)
   ·rw [if_pos (of_decide_eq_true h5)] at h
    ext;refine iW (by decide) ?_;ext;refine eU (lo:=none) (hi:=some (-1)) rfl rfl hdb ?_;rw [dA,gL];ext;exact h _
   ·rw [if_neg (of_decide_eq_false h5)] at h
    ext;exact h _
end
end
section
variable {T:List (List Nat)}{t:List Nat}
def Gt (t:List Nat):Prop:=(∃c,t=[c]∧c≠61)∨ ∃a b,t=[61,a,b]∧a≠61∧b≠61
theorem Gt.len (h:Gt t):t.length=1∨t.length=3:=by
 rcases h with ⟨c,rfl,_⟩|⟨a,b,rfl,_,_⟩
 ·exact .inl rfl
 ·exact .inr rfl
theorem Gt.first (h:Gt t) (h3:t.length≠1) (r:List Nat):(t++r)[0]? =some 61:=by
 rcases h with ⟨c,rfl,_⟩|⟨a,b,rfl,_,_⟩
 ·exact absurd rfl h3
 ·rfl
theorem rU (h: ∀t∈T,Gt t): ∀{k:Nat},k+1=T.flatten.length→T.flatten[k]? ≠some 61:=by
 intro k hk;rcases ju T with rfl|⟨T',t,rfl⟩
 ·simp at hk
 ·rw [nh] at*
  obtain ht:=h t (by simp);rw [ew,aj] at hk;simp only [br,fb,be] at hk;rw [ew];simp only [br,fb,be];rcases ht with ⟨c,rfl,hc⟩|⟨a,b,rfl,ha,hb⟩
  ·simp only [er] at hk
   rw [bf (by simp_all),show k - T'.flatten.length=0 by simp_all];simpa using hc
  ·simp only [cn,js] at hk
   rw [bf (by simp_all),show k - T'.flatten.length=2 by simp_all];simpa using hb
theorem De (h: ∀t∈T,Gt t): ∀{k:Nat},k+2=T.flatten.length→T.flatten[k]? ≠some 61:=by
 intro k hk;rcases ju T with rfl|⟨T',t,rfl⟩
 ·simp at hk
 ·rw [nh] at*
  have ht:=h t (by simp);rw [ew,aj] at hk;simp only [br,fb,be] at hk;rw [ew];simp only [br,fb,be];rcases ht with ⟨c,rfl,hc⟩|⟨a,b,rfl,ha,hb⟩
  ·simp only [er] at hk
   rw [bh (by lia)];exact rU (fun t ht=>h t (by simp [ht])) (by simp_all)
  ·simp only [cn,js] at hk
   rw [bf (by simp_all),show k - T'.flatten.length=1 by simp_all];simpa using ha
theorem uH: ∀{T:List (List Nat)} {w:Nat},(∀t∈T,Gt t)→1≤w→w<T.flatten.length→
  cZ w T<T.length∧(T.take (cZ w T)).flatten.length<w∧w≤(T.take (cZ w T)).flatten.length+(T.getD (cZ w T) []).length:=by
 intro zi;induction zi with
 |nil=>intro w _ _ h;simp at h
 |cons a r ih=>
  intro w hG h1 h;rw [mH];have ha:=(hG a (.head _)).len;by_cases hc:a.length<w∧r≠[]
  ·rw [if_pos hc]
   rw [br,aj] at h;refine Ja (ih (fun t ht=>hG t (.tail _ ht)) (by exact aQ 0x125882144c22 0x2100401 [_,_] hc.1) (by exact aW 0x131ac419a8620cc22 0x42008001 [_,_,_] h hc.1)) fun g1 g2 g3=>?_;refine ⟨by rw [cn];exact o8 (by assumption),?_,?_⟩
   ·rw [l7,br,aj];exact aQ 0x2635083358462 0x100021 [_,_,_] g2
   ·rw [l7,br,aj,List.getD_cons_succ];exact aQ 0x24a228620c9441ac41 0x2008021 [_,_,_,_] g3
  ·rw [if_neg hc]
   refine ⟨by simp,by simp only [jg,fb,js];assumption,?_⟩;rw [jg,List.getD_cons_zero];simp only [fb,js];by_cases hr:r=[]
   ·subst hr;simp at h;exact aQ 0x12508080cc41 33 [_,_] h
   ·have: ¬a.length<w:=fun q=>hc ⟨q,hr⟩
    simp_all
theorem Dw {w:Nat} (hw:4≤w) {line:List Nat}: ∀(f:Nat) (left:List (List Nat)) (s n:Nat),(∀t∈left,Gt t)→line.drop s=left.flatten→s≤line.length→left.flatten.length≤f→left.length≤n→
  ∃left':List (List Nat),(∀t∈left',t∈left)∧line.drop (aM w line f s).2=left'.flatten∧(aM w line f s).2≤line.length∧left'.flatten.length≤w∧(left.flatten≠[]→left'.flatten≠[])∧bB w n left=(aM w line f s).1++bI w left'.flatten:=by
 walk_at "T w, hw line,";walk_at "I f,";induction f with
 |zero=>
  intro left s n hG hd hs hf hn;refine ⟨left,fun t h=>h,hd,hs,by exact aq (by assumption) (ax _ _),id,?_⟩;cases n with
  |zero=>rfl
  |succ n=>rw [eF];rw [if_neg (by simp_all)];rfl
 |succ f ih=>
  intro left s n hG hd hs hf hn;have hlen:line.length=s+left.flatten.length:=by have:=congrArg gt hd;rw [f8] at this;exact aW 0x1450c41904541ac41 0x40008420000000042000401 [_,_,_] hs this
  rw [gU];by_cases hc:s+w+1≤line.length
  ·rw [if_pos hc]
   refine Ja (uH hG (by exact aq (ax _ _) (by assumption)) (show w<left.flatten.length by exact aW 0x988345088390d4142824 1057 [_,_,_,_] hlen hc)) fun g1 g2 g3=>?_;generalize hk:cZ w left=k at*;have hne:left≠[]:=by rintro rfl;simp at g1
   cases n with
   |zero=>cases left<;>simp at*
   |succ n=>
   have hrow:bB w (n+1) left=((left.take k).flatten++[61])::bB w n (left.drop k):=by
    conv=>lhs;rw [eF]
    rw [if_pos (by exact aW 0x988345088390d4142824 1057 [_,_,_,_] hlen hc),hk]
   have htok:Gt (left.getD k []):=by rw [ao,ae g1];exact hG _ (cg g1)
   have hGp: ∀t∈left.take k,Gt t:=fun t ht=>hG t (lz ht);have hsplit:left.flatten=(left.take k).flatten++(left.drop k).flatten:=by rw [←ew,fq]
   have hdk:left.drop k=left.getD k []::left.drop (k+1):=by rw [ck g1,ao,ae g1];rfl
   have hkpos:1≤k:=by
    rcases Nat.eq_zero_or_pos k with e|e
    ·subst e
     have:=htok.len;simp only [jg,fb,js,Nat.zero_add] at g3;exact hW 0x120202890488d50681502814841 0x200840100420 [_,_] hw this g3
    ·exact e
   generalize hp:(left.take k).flatten.length=p at*;have hget: ∀i,line[s+i]? =left.flatten[i]? :=fun i=>by rw [←hd,ow]
   have hgetP: ∀i,i<p→left.flatten[i]? =(left.take k).flatten[i]? :=fun i hi=>by rw [hsplit,bh (by exact aW 0x131068314c61 32801 [_,_,_] hp hi)]
   have htk: ∀i,(line.take (s+i)).drop s=left.flatten.take i:=fun i=>by rw [←hd,mh,my]
   have hfirst:(left.getD k []).length≠1→line[s+p]? =some 61:=fun h3=>by rw [hget,hsplit,bf (by exact aQ 0x2420d041 33 [_,_] hp),hp,rt,hdk,br];exact htok.first h3 _
   have htl:=htok.len;have rec':=fun (e:line.drop (s+p)=(left.drop k).flatten)=>ih (left.drop k) (s+p) n (fun t ht=>hG t (j3 ht)) e (by exact aW 0x90d420c86a0a1440cc82 1057 [_,_,_,_] hc g2) (by have:=congrArg gt hsplit;rw [aj] at this;lia) (by rw [f8];exact aW 0x486b1064a0a06190828 0x108401 [_,_,_] hn hkpos);have hdp:line.drop (s+p)=(left.drop k).flatten:=by rw [←List.drop_drop,hd,hsplit,List.drop_append_of_le_length (by exact aQ 0x2420d022 1025 [_,_] hp), ←hp,List.drop_length,fp]
   refine Pk (rec' hdp) fun left' r1 r2 r3 r4 r5 r6=>?_;have hleftne:(left.drop k).flatten≠[]:=by rw [hdk,br];walk_at "I e";have:=(jq.mp e).1;rw [this] at htl;simp at htl
   have nQ: ∀(row:List Nat) (s':Nat),row=(left.take k).flatten++[61]→s'=s+p→ ∃left':List (List Nat),(∀t∈left',t∈left)∧line.drop (aM w line f s').2=left'.flatten∧(aM w line f s').2≤line.length∧left'.flatten.length≤w∧(left.flatten≠[]→left'.flatten≠[])∧bB w (n+1) left=(row::(aM w line f s').1)++bI w left'.flatten:=by
    rintro row s' rfl rfl
    exact ⟨left',fun t ht=>j3 (r1 t ht),r2,r3,r4,fun _=>r5 hleftne,by rw [hrow,r6];rfl⟩
   have hpre: ∀i,i=p→left.flatten.take i=(left.take k).flatten:=fun i e=>by rw [hsplit,List.take_append_of_le_length (by exact aW 0x121068315061 0x100021 [_,_,_] hp e),e, ←hp,iz]
   have hpre1: ∀i,i=p+1→line[s+p]? =some 61→left.flatten.take i=(left.take k).flatten++[61]:=fun i e h61=>by rw [e,d7,hpre p rfl, ←hget,h61];rfl
   have e3:s+w - 3=s+(w - 3):=by (exact aQ 0x1452c68105634284190888 0x108020000210040100021080010000100001 [_,_] hw)
   have e2:s+w - 2=s+(w - 2):=by exact aQ 0x1452c48105624284190888 0x108020000210040100021080010000100001 [_,_] hw
   have e1:s+w - 1=s+(w - 1):=by (exact aQ 0xa29614082b0a1420cc43 0x100401000210040100021080010000100001 [_,_,_] g2)
   rw [e3,e2,e1,htk,htk];rcases (show p=w - 1∨p=w - 2∨p=w - 3 by (clear hw rec' hdp nQ e3 e2 e1;lia)) with h|h|h
   ·have n1:line[s+(w - 3)]? ≠some 61:=by rw [hget,hgetP _ (by (exact aW 0x98963406412228b0a022 0x80000800100001080000800008001 [_,_] hw h))];exact De hGp (by (exact hW 0x2825090b1a0320911418a8b0a023 0x8000000200002000401000010000100001000200800000020080000002000400080010002000401 [_,_,_] hw hp h))
    have n2:line[s+(w - 2)]? ≠some 61:=by rw [hget,hgetP _ (by (exact aW 0x98962406412228b0a022 0x80000800100001080000800008001 [_,_] hw h))];exact rU hGp (by (exact hW 0x2825050b120320911418a8b0a023 0x8000000200002000401000010000100001000200800000020080000002000400080010002000401 [_,_,_] hw hp h))
    rw [if_neg n1,if_neg n2];exact nQ _ _ (by rw [hpre _ h.symm]) (by exact aQ 0xa286152c281068b0a043 0x80010042000401000200000008400080010002000401 [_,_,_] h)
   ·have n1:line[s+(w - 3)]? ≠some 61:=by rw [hget,hgetP _ (by (exact aW 0x98963406412228b12022 0x80000800100001080000800008001 [_,_] hw h))];exact rU hGp (by (exact hW 0x2825050b1a0320911418a8b12023 0x8000000200002000401000010000100001000200800000020080000002000400080010002000401 [_,_,_] hw hp h))
    have n2:line[s+(w - 2)]? =some 61:=by rw [←h];exact hfirst (by (exact hW 0xdd0280c8444494118a8b12043 0x20080000002000401 [_,_,_] hw g3 h))
    rw [if_neg n1,if_pos n2];exact nQ _ _ (hpre1 _ (by (exact aW 0x514140961406412228b12022 0x42000020004000042100000000000040100020000200040000401 [_,_] hw h)) (by rw [h];exact n2)) (by exact aQ 0xa286152c481068b12043 0x80010042000401000200000008400080010002000401 [_,_,_] h)
   ·have n1:line[s+(w - 3)]? =some 61:=by rw [←h];exact hfirst (by (exact hW 0xdd0280c8444494118a8b1a043 0x20080000002000401 [_,_,_] hw g3 h))
    rw [if_pos n1];exact nQ _ _ (hpre1 _ (by (exact aW 0x514140962406412228b1a022 0x42000020004000042100000000000040100020000200040000401 [_,_] hw h)) (by rw [h];exact n1)) (by exact aQ 0xa286152c681068b1a043 0x80010042000401000200000008400080010002000401 [_,_,_] h)
  ·rw [if_neg hc]
   refine ⟨left,fun t h=>h,hd,hs,by exact aW 0x121068a0907b90d4142844 32801 [_,_,_,_] hlen hc,id,?_⟩;cases n with
   |zero=>rfl
   |succ n=>rw [eF];rw [if_neg (by exact aW 0x3731068a1107b90d4142824 32801 [_,_,_,_] hlen hc)];rfl
end
section
theorem bR {a:List Nat} {r:List (List Nat)} (h:r≠[]):aS (a::r)=a++10::aS r:=by
 cases r with
 |nil=>exact absurd rfl h
 |cons b r=>rfl
theorem jH (x y:List Nat): ∀(A B:List (List Nat)),aS (A++(x++10::y)::B)=aS (A++x::y::B)
 |[],[]=>by rfl
 |[],b::B=>by exact aa ..
 |a::A,B=>by rw [cq,cq,bR (by simp),bR (by simp),jH x y A B]
theorem Bf {w s:Nat} {line:List Nat} (hs:s≤line.length) (hw:(line.drop s).length≤w) (hne:line≠[]→line.drop s≠[]) (A B:List (List Nat)):
  aS (A++eM w line s::B)=aS (A++bI w (line.drop s)++B):=by
 walk_at "T w,s,line hs hw hne A,B";generalize ht:line.drop s=t at*;have hlen:line.length=s+t.length:=by have:=congrArg gt ht;rw [f8] at this;exact aW 0x1450c41904541ac41 0x40008420000000042000401 [_,_,_] hs this
 cases hl:line.getLast? with
 |none=>
  have:line=[]:=by simpa using hl
  subst this;have:t=[]:=by rw [←ht];simp
  subst this;delta eM bI;simp
 |some c=>
  have hne':line≠[]:=by rintro rfl;simp at hl
  have htne:=hne hne';have htl:t.getLast? =some c:=by rw [←ht,List.getLast?_drop,if_neg (by intro q;apply htne;rw [←ht];exact dt q),hl]
  have hdl:line.dropLast.drop s=t.dropLast:=by rw [lm,mh,ht,lm,hlen];congr 1;exact jP 0x14585025856142841 0x1000010840008400000010040100021080010000100001000210040100021004010000100001 [_,_]
  have htd:t=t.dropLast++[c]:=by obtain ⟨h1,h2⟩:=i7.mp htl;rw [h2];simp
  delta eM bI;rw [hl,htl];dsimp only;by_cases hc:c=32∨c=9
  ·have hc':(some c=some 32∨some c=some 9):=hc.imp (congrArg some) (congrArg some)
   rw [if_pos hc,if_pos hc',hdl];have hcode:(if some c=some 32 then [61,50,48] else [61,48,57])=jG c:=by
    rcases hc with rfl|rfl
    ·rfl
    ·rfl
   simp only [hcode];by_cases h1:t.length+2≤w
   ·rw [if_pos (by exact aW 0x4943128480d1441064350904 1057 [_,_,_,_] hlen h1),if_pos h1];simp
   ·rw [if_neg (by exact aW 0x1b9286250901a28820ee4350904 32801 [_,_,_,_] hlen h1),if_neg h1]
    by_cases h2:t.length<w
    ·rw [if_pos (by exact hW 0x5143128280d144107721a84824c64 0x10042100401 [_,_,_,_] hlen h1 h2),if_pos h2]
     have e:t.dropLast++[c,61,10]=(t++[61])++10::[]:=by
      conv=>rhs;rw [htd]
      simp
     rw [e,jH];simp
    ·rw [if_neg (by exact aW 0x37450c4a0a03451041dcc64 0x100401 [_,_,_,_] hlen h2),if_neg h2]
     have e:t.dropLast++([61,10]++jG c)=(t.dropLast++[61])++10::jG c:=by simp
     rw [e,jH];simp
  ·have hc': ¬(some c=some 32∨some c=some 9):=fun q=>hc (q.imp ba ba)
   rw [if_neg hc,if_neg hc',ht];simp
def Qm:List Nat→Bool
 |[a]=>decide (a≠61)
 |[a,b,d]=>decide (a=61∧b≠61∧d≠61)
 |_=>false
theorem Mq {l:List Nat} (h:Qm l=true):Gt l:=by
 rcases l with _|⟨a,_|⟨b,_|⟨d,_|_⟩⟩⟩
 ·cases h
 ·exact .inl ⟨a,rfl,of_decide_eq_true h⟩
 ·cases h
 ·obtain ⟨rfl,h1,h2⟩:=of_decide_eq_true h
  exact .inr ⟨b,d,rfl,h1,h2⟩
 ·cases h
theorem pL (c:Nat) (hc:c<256):Gt (aR c):=Mq ((by decide+kernel: ∀c<256,Qm (aR c)=true) c hc)
theorem Ao {w:Nat} (hw:4≤w) {l:List Nat} (hl: ∀c∈l,c<256) (A B:List (List Nat)):
  aS (A++bT w (l.flatMap aR)++B)=aS (A++bB w l.length (l.map aR)++B):=by
 walk_at "T w, hw l, hl A,B";obtain hG: ∀t∈l.map aR,Gt t:=fun t ht=>by refine aE (ap.mp ht) fun c hc qz2=>?_;subst qz2;exact pL c (hl c hc)
 have hf:l.flatMap aR=(l.map aR).flatten:=List.flatMap_def;obtain ⟨left',_,h2,h3,h4,h5,h6⟩:=Dw hw (line:=l.flatMap aR) (l.flatMap aR).length (l.map aR) 0 l.length hG (by rw [g8,hf]) (cz _) (by rw [hf];exact ay _) (by rw [bl];exact ay _);rw [h6];delta bT;generalize aM w (l.flatMap aR) (l.flatMap aR).length 0=r at*;rw [←h2];have:=Bf (A:=A++r.1) (B:=B) h3 (by rw [h2];exact h4) (fun hne=>by rw [h2];exact h5 (by rw [←hf];exact hne));simpa using this
end
section
open PySem.Builtin PySem.Builtin.Str PySem.StrLaws
variable {p:List Nat}
def fY:List Nat→List (List Nat)
 |[]=>[[]]
 |c::r=>if c=10 then []::fY r else match fY r with
  |a::b=>(c::a)::b
  |[]=>[[c]]
theorem oD (c r):fY (c::r)=(if c=10 then []::fY r else match fY r with
  |a::b=>(c::a)::b
  |[]=>[[c]]):=rfl
theorem fN: ∀l,fY l≠[]
 |[]=>by intro h;cases h
 |c::r=>by rw [oD];split;simp;split<;>simp
theorem Ed: ∀l, ∀p∈fY l,10∉p:=by
 intro zi;induction zi with
 |nil=>intro p hp;have hp:=bk.mp hp;subst hp;exact dv
 |cons c r ih=>
  intro p hp;have ih:=ih;rw [oD] at hp;split at hp
  ·rcases ar.mp hp with rfl|hp
   ·simp
   ·exact ih p hp
  ·rename_i hc
   split at hp
   ·rename_i a b e
    rw [e] at ih;rcases ar.mp hp with rfl|hp
    ·have:=ih a (.head _)
     simp only [ar,not_or];exact ⟨fun q=>hc q.symm,this⟩
    ·exact ih p (.tail _ hp)
   ·rename_i e;exact absurd e (fN r)
theorem Gv: ∀l, ∀p∈fY l, ∀c∈p,c∈l:=by
 intro zi;induction zi with
 |nil=>intro p hp c hc;have hp:=bk.mp hp;subst hp;cases hc
 |cons d r ih=>
  intro p hp c hc;have ih:=ih;rw [oD] at hp;split at hp
  ·rcases ar.mp hp with rfl|hp
   ·cases hc
   ·exact .tail _ (ih p hp c hc)
  ·split at hp
   ·rename_i a b e
    rw [e] at ih;rcases ar.mp hp with rfl|hp
    ·rcases ar.mp hc with rfl|hc
     ·exact .head _
     ·exact .tail _ (ih a (.head _) c hc)
    ·exact .tail _ (ih p (.tail _ hp) c hc)
   ·rename_i e;exact absurd e (fN r)
theorem uL (h:10∉p) (r:List Nat):fY (p++10::r)=p::fY r:=by
 induction p with
 |nil=>rw [fp,oD,if_pos rfl]
 |cons c p ih=>
  rw [cq];obtain hc:c≠10:=fun e=>h (e▸ .head _)
  conv=>lhs;rw [oD]
  rw [if_neg hc,ih fun q=>h (.tail _ q)]
theorem yY (h:10∉p):fY p=[p]:=by
 induction p with
 |nil=>rfl
 |cons c p ih=>obtain hc:c≠10:=fun e=>h (e▸ .head _);rw [oD];rw [if_neg hc,ih fun q=>h (.tail _ q)]
theorem lF: ∀{ls:List (List Nat)},ls≠[]→(∀p∈ls,10∉p)→fY (aS ls)=ls
 |[],h,_=>absurd rfl h
 |[a],_,h=>by unfold aS;exact yY (h a (.head _))
 |a::b::r,_,h=>by rw [bR (by simp),uL (h a (.head _)),lF (by simp) fun p hp=>h p (.tail _ hp)]
theorem jI (l:List Nat):aS (fY l)=l:=by
 induction l with
 |nil=>rfl
 |cons c r ih=>
  rw [oD];split
  ·rename_i hc
   rw [bR (fN r),ih,hc];rfl
  ·split
   ·rename_i a b e
    rw [e] at ih;cases b with
    |nil=>unfold aS at *; rw [ih]
    |cons b bs=>rw [bR (by simp)] at *; rw [←ih];rfl
   ·rename_i e;exact absurd e (fN r)
theorem qM (t:List Nat):lv (tx t) "\n"=(fY t).map tx:=by
 obtain hn:("\n":Str)=tx [10]:=by decide+kernel
 rw [hn];have h1:=StrLaws.join_split (tx t) (tx [10]);have h2:=StrLaws.split_free (tx t) 10;obtain ⟨ls,e⟩: ∃ls:List (List Nat),lv (tx t) (tx [10])=ls.map tx:=⟨(lv (tx t) (tx [10])).map fun y=>y.cps.toList,by
  rw [cw]
  conv=>lhs;rw [←mj (lv (tx t) (tx [10]))]
  exact gv fun y _=>(mC y).symm⟩
 have h2: ∀p∈lv (tx t) (tx [10]),10∉p.cps.toList:=h2;rw [e] at h1 h2 ⊢;rw [oE] at h1;obtain h1:aS ls=t:=congrArg (fun z:Str=>z.cps.toList) h1;obtain hne:ls≠[]:=by
  rintro rfl
  obtain hs:lv (tx t) (tx [10])≠[]:=by
   unfold lv;split
   ·simp
   ·split
    ·simp
    ·intro q
     have:=length_partsBetween (tx t) (occurrences (tx t) (tx [10]) 0 (tx t).length ((tx t).length+1)) (tx [10]).length;rw [q] at this;simp at this
  exact hs e
 rw [←h1,lF hne fun p hp=>h2 (tx p) (du hp)]
def dl (ls:List (List Nat)):List (List Nat):=if ls.getLast? =some [] then ls.dropLast else ls
theorem Ii {a:List Nat} {L:List (List Nat)} (h:L≠[]):dl (a::L)=a::dl L:=by
 delta dl;refine My (qe h) fun b r qz2=>?_;subst qz2;rw [q6];split
 ·rw [List.dropLast_cons_cons]
 ·rfl
theorem Cm (l:List Nat) (a b:Nat):strSub (tx l) a b=tx ((l.drop a).take (b - a)):=by rw [←mC (strSub (tx l) a b),strSub_toList];rfl
theorem Bh (l:List Nat) (h: ∀c∈l,fm c=true→c=10): ∀(m cur:Nat) (st:LsSt),cur+m=l.length→st.2≤cur→(∀k,st.2≤k→k<cur→l[k]? ≠some 10)→
  (lsEnd (tx l) (Id.run (forIn (m:=Id) (sg cur m) st (lsBody (tx l))))).map (fun p=>strSub (tx l) p.1 p.2.1)=st.1.toList.map (fun p=>strSub (tx l) p.1 p.2.1)++(dl (fY (l.drop st.2))).map tx:=by
 walk_at "I zi,";induction zi with
 |zero=>
  intro cur ⟨arr,start⟩ hc hs hn;obtain hs:start≤cur:=hs;have hn: ∀k,start≤k→k<cur→l[k]? ≠some 10:=hn;have hfree:10∉l.drop start:=by intro q;obtain ⟨k,hk⟩:=si q;rw [ow] at hk;have:=(af.mp hk).1;exact hn (start+k) (by exact dw _ _) (by simp_all) hk
  show (lsEnd (tx l) (arr,start)).map _=_;delta lsEnd;dsimp only;rw [yY hfree,aH];by_cases hlt:start<l.length
  ·rw [if_pos hlt,tf,bv]
   congr 1
   delta dl;obtain hne:l.drop start≠[]:=by intro q;have:=congrArg gt q;rw [f8] at this;simp at this;exact aW 0x3931068042c22 0x840008001 [_,_] hlt this
   rw [if_neg (by simpa using hne)];simp only [bg,gi];rw [Cm,cf (by rw [f8];exact ay _)]
  ·rw [if_neg hlt]
   obtain hnil:l.drop start=[]:=dt (by exact fe.mp (by assumption));rw [hnil];simp [dl]
 |succ m ih=>
  intro cur ⟨arr,start⟩ hc hs hn;obtain hs:start≤cur:=hs;have hn: ∀k,start≤k→k<cur→l[k]? ≠some 10:=hn;rw [List.range'_succ,List.forIn_cons];have hcl:cur<l.length:=by exact aQ 0x4c41a094a0a061 33 [_,_,_] hc
  have hg:(tx l).cps.getD cur 0=l[cur]:=by show (l.toArray).getD cur 0=_;rw [Array.getD_eq_getD_getElem?,List.getElem?_toArray,ae hcl];rfl
  delta lsBody;simp only [hg,hs,decide_true,Bool.true_and];by_cases hb:fm l[cur]=true
  ·have e10:l[cur]=10:=h _ (cg hcl) hb
   obtain hnx:lsNext (tx l) cur=cur+1:=by delta lsNext;rw [hg,e10];rfl
   simp only [hb,if_true,hnx];have ih:=ih (cur+1) (arr.push (start,cur,cur+1),cur+1) (by exact aQ 0xa0d4250501a0d4a0a041 0x108401 [_,_,_] hc) (ay _) (fun k h1 h2=>by exfalso;have h1:cur+1≤k:=h1;exact aW 0x1c9a8281064150502 33 [_,_] h2 h1);refine Eq.trans ih ?_;dsimp only;rw [tf,bv,aa]
   congr 1
   obtain hseg:l.drop start=(l.drop start).take (cur - start)++10::l.drop (cur+1):=by
    conv=>lhs;rw [←fq (cur - start) (l.drop start)]
    congr 1
    rw [List.drop_drop,show start+(cur - start)=cur by simp_all,ck hcl,e10]
   obtain hfree:10∉(l.drop start).take (cur - start):=by intro q;obtain ⟨k,hk⟩:=si q;have hk':=(af.mp hk).1;rw [gy] at hk';rw [qt (by exact aQ 0x9ac620cd8458c41 0x420004000800008000004000800100021004200040000401 [_,_,_,_] hk'),ow] at hk;exact hn (start+k) (by exact dw _ _) (by exact aQ 0x98d420cd8458462 0x420000200042100021 [_,_,_,_] hk') hk
   conv=>rhs;rw [hseg,uL hfree,Ii (fN _)]
   simp only [bg,gi,cq,fp];rw [Cm]
  ·simp only [hb,if_false,bu]
   refine ih (cur+1) (arr,start) (by exact aQ 0xa0d4250501a0d4a0a041 0x108401 [_,_,_] hc) (by show start≤cur+1;exact aq (by assumption) (dw _ _)) (fun k h1 h2=>?_);by_cases hk:k<cur
   ·exact hn k h1 hk
   ·obtain this:k=cur:=by exact aW 0x141066a0a041dcc41 0x2008021 [_,_] h2 hk
    subst this;rw [ae hcl];intro q;obtain q:=ba q;rw [q] at hb;exact hb (by decide+kernel)
theorem Bk {l:List Nat} (h: ∀c∈l,fm c=true→c=10):lw (tx l)=(dl (fY l)).map tx:=by
 obtain key:=Bh l h l.length 0 ((#[],0):LsSt) (by exact Nat.add_comm _ _) (cz _) (fun k _ h2=>absurd h2 (ko _));have e1:(lineSpans (tx l)).map (fun p=>strSub (tx l) p.1 p.2.1)=(dl (fY l)).map tx:=by rw [ls_eq,aH,key];simp
 have e2:linesOf (tx l)=(lineSpans (tx l)).map (fun p=>strSub (tx l) p.1 p.2.1):=by delta linesOf lineCuts;rw [cw];rfl
 unfold lw;split
 ·rename_i hc
  obtain hc:lineCuts (tx l)=[(0,(tx l).length)]:=eq_of_beq hc;rw [←e1, ←e2];delta linesOf;rw [hc];simp only [bg,gi,sub_whole]
 ·rw [e2,e1]
end
section
open PySem.Builtin PySem.Builtin.Str PySem.StrLaws
def fI:List Nat:=[97,32,61,10,9,228,46,98]
def bY (p:List Nat):List Nat:=p.flatMap aR
theorem dJ: ∀c∈fI,c<256∧(aG c).cps.toList=(if c=10 then [10] else aR c)∧(c≠10→ ∀d∈aR c,d≠10∧d≠13∧fm d=false)∧aR c≠[]:=by decide+kernel
def wF (p:List Nat):Prop:= ∀c∈p,c∈fI∧c≠10
theorem mA {t:List Nat} (h: ∀c∈t,c∈fI): ∀p∈fY t,wF p:=fun p hp c hc=>
 ⟨h c (Gv t p hp c hc),fun e=>Ed t p hp (e▸hc)⟩
theorem wZ: ∀{p:List Nat},wF p→eI aG p=bY p
 |[],_=>rfl
 |c::p,h=>by have hc:=h c (.head _);have f:=dJ c hc.1;show (aG c).cps.toList++eI aG p=aR c++bY p;rw [f.2.1,if_neg hc.2,wZ fun d hd=>h d (.tail _ hd)]
theorem Lf (a b:List Nat):eI aG (a++b)=eI aG a++eI aG b:=by delta eI;rw [ey]
theorem nO: ∀{ls:List (List Nat)},(∀p∈ls,wF p)→eI aG (aS ls)=aS (ls.map bY)
 |[],_=>rfl
 |[a],h=>wZ (h a (.head _))
 |a::b::r,h=>by
  have e1:aS (a::b::r)=a++10::aS (b::r):=bR (by simp);have e2:aS ((a::b::r).map bY)=bY a++10::aS ((b::r).map bY):=bR (by simp);rw [e1,e2,Lf,wZ (h a (.head _))];have e:eI aG (10::aS (b::r))=10::eI aG (aS (b::r)):=by
   have:(aG 10).cps.toList=[10]:=by decide+kernel
   show (aG 10).cps.toList++eI aG (aS (b::r))=_;rw [this];rfl
  rw [e,nO fun p hp=>h p (.tail _ hp)]
theorem jS {p:List Nat} (h:wF p): ∀d∈bY p,d≠10∧d≠13∧fm d=false:=fun d hd=>by refine aE (mr.mp hd) fun c hc hd=>?_;exact (dJ c (h c hc).1).2.2.1 (h c hc).2 d hd
theorem jT: ∀{ls:List (List Nat)} {c:Nat},c∈aS ls→c=10∨ ∃p∈ls,c∈p
 |[a],c,h=> .inr ⟨a, .head _,h⟩
 |a::b::r,c,h=>by
  rw [bR (by simp)] at h;rcases bq.mp h with h|h
  ·exact .inr ⟨a, .head _,h⟩
  ·rcases ar.mp h with h|h
   ·exact .inl h
   ·rcases jT h with h|⟨p,hp,h⟩
    ·exact .inl h
    ·exact .inr ⟨p, .tail _ hp,h⟩
theorem kP: ∀{ls:List (List Nat)},aS ls≠[]→(∀p∈ls,10∉p)→((aS ls).getLast? =some 10↔ls.getLast? =some [])
 |[],h,_=>absurd rfl h
 |[a],h,hf=>by
  have ha:=hf a (.head _);have h:a≠[]:=h;constructor
  ·intro e
   exact absurd (nk e) ha
  ·intro e
   have:a=[]:=by simpa using e
   exact absurd this h
 |a::b::r,_,hf=>by
  rw [bR (by simp),q6];by_cases hj:aS (b::r)=[]
  ·have hb:b::r=[[]]:=by
    cases r with
    |nil=>have:b=[]:=hj;rw [this]
    |cons c r=>rw [bR (by simp)] at hj;simp at hj
   rw [hb];simp [aS]
  ·rw [←kP hj fun p hp=>hf p (.tail _ hp),nu,List.getLast?_cons]
   cases e:(aS (b::r)).getLast? with
   |none=>exact absurd (by simpa using e) hj
   |some x=>simp
def dB (w:Nat) (p:List Nat):List (List Nat):=bB w p.length (p.map aR)
theorem qQ {w:Nat} (hw:4≤w): ∀(Q:List (List Nat)) (A:List (List Nat)),(∀p∈Q,wF p)→aS (A++Q.flatMap fun p=>bT w (bY p))=aS (A++Q.flatMap (dB w))
 |[],A,_=>rfl
 |p::Q,A,h=>by rw [cx,cx, ←aa, ←aa] at ⊢;exact (Ao hw (fun c hc=>(dJ c (h p (.head _) c hc).1).1) A _).trans (qQ hw Q (A++dB w p) fun q hq=>h q (.tail _ hq))
theorem Bv {w:Nat} (hw:4≤w) {t:List Nat} (h: ∀c∈t,c∈fI) (hne:t≠[]) {L:List (List Nat)} (hL:L=dl ((fY t).map bY)):nH w t L=aS ((fY t).flatMap (dB w)):=by
 walk_at "T w, hw t, h hne L, hL";have hS:=mA h;have hu:eI aG t=aS ((fY t).map bY):=by
  conv=>lhs;rw [←jI t]
  exact nO hS
 have hf: ∀p∈(fY t).map bY,10∉p:=fun p hp=>by refine aE (ap.mp hp) fun q hq qz2=>?_;subst qz2;exact fun hm=>(jS (hS q hq) 10 hm).1 rfl
 have hune:aS ((fY t).map bY)≠[]:=by
  rw [←hu];cases t with
  |nil=>exact absurd rfl hne
  |cons c r=>
   intro e;have:=(jq.mp (show (aG c).cps.toList++eI aG r=[] from e)).1;have f:=dJ c (h c (.head _));rw [f.2.1] at this;split at this
   ·cases this
   ·exact f.2.2.2 this
 have h13:(aS ((fY t).map bY)).getLast? ≠some 13:=fun e=>by
  rcases jT (nk e) with q|⟨p,hp,q⟩
  ·cases q
  ·refine aE (ap.mp hp) fun p' hp' qz2=>?_;subst qz2
   exact (jS (hS p' hp') 13 q).2.1 rfl
 have hlast:=kP hune hf;unfold nH;rw [if_neg hne,hu, ←fp ((fY t).flatMap (dB w)), ←qQ hw (fY t) [] hS,fp,hL] at ⊢;have e1:(fY t).flatMap (fun p=>bT w (bY p))=((fY t).map bY).flatMap (bT w):=by rw [List.flatMap_map]
 rw [e1];delta dl;by_cases hl:((fY t).map bY).getLast? =some []
 ·rw [if_pos hl,if_pos (.inr (hlast.mpr hl))]
  congr 1
  have hne2:(fY t).map bY≠[]:=by simpa using fN t
  have e2:(fY t).map bY=((fY t).map bY).dropLast++[[]]:=by obtain ⟨h1,h2⟩:=i7.mp hl;rw [h2];simp
  conv=>rhs;rw [e2,ey]
  rfl
 ·rw [if_neg hl,if_neg (by rintro (q|q);exact h13 q;exact hl (hlast.mp q)),be] at ⊢
end
section
open PySem.Builtin PySem.Builtin.Str PySem.StrLaws
variable {c w:Nat}{l p:List Nat}
def Tok (x:List Nat×Nat):Prop:=(x.1=[x.2]∧x.2≠61)∨ ∃a b,x.1=[61,a,b]∧kB a=true∧kB b=true∧hv a*16+hv b=x.2
def Kw (c:Nat):List Nat→Bool
 |[a]=>decide (a=c∧c≠61)
 |[x,a,b]=>decide (x=61∧kB a=true∧kB b=true∧hv a*16+hv b=c)
 |_=>false
theorem Fe (h:Kw c l=true):Tok (l,c):=by
 rcases l with _|⟨a,_|⟨b,_|⟨d,_|_⟩⟩⟩
 ·cases h
 ·obtain ⟨rfl,h2⟩:=of_decide_eq_true h;exact .inl ⟨rfl,h2⟩
 ·cases h
 ·obtain ⟨rfl,h2⟩:=of_decide_eq_true h;exact .inr ⟨b,d,rfl,h2⟩
 ·cases h
theorem Dy (c:Nat) (hc:c∈fI):Tok (aR c,c):=Fe ((by decide+kernel: ∀c∈fI,Kw c (aR c)=true) c hc)
theorem Hw (c:Nat) (hc:c∈fI):Tok (jG c,c):=Fe ((by decide+kernel: ∀c∈fI,Kw c (jG c)=true) c hc)
theorem rD (hc:c≠61) {r:List Nat} (hr:r≠[]):dG (c::r)=c::dG r:=by
 match r,hr with
 |[a],_=>rw [Jf]
 |a::b::r,_=>rw [uV,if_neg fun q=>hc q.1]
theorem Gh: ∀{ts:List (List Nat×Nat)},(∀x∈ts,Tok x)→dG ((ts.map (·.1)).flatten++[61])=ts.map (·.2):=by
 intro zi;induction zi with
 |nil=>intro _;rw [gi,fb,fp,Eh];rfl
 |cons x ts ih=>
  intro h;have ih:=ih fun y hy=>h y (.tail _ hy);rw [bg,br,aa,bg];rcases h x (.head _) with ⟨e,hc⟩|⟨a,b,e,ha,hb,hv⟩
  ·rw [e,eh,rD hc (by simp),ih]
  ·rw [e]
   show dG (61::a::b::((ts.map (·.1)).flatten++[61]))=_;rw [uV,if_pos ⟨rfl,ha,hb⟩,if_neg (by simp),hv,ih]
theorem Lc {x:List Nat×Nat} (h:Tok x):x.1≠[]:=by rcases h with ⟨e,_⟩|⟨a,b,e,_⟩<;>rw [e]<;>simp
theorem oO: ∀{ts:List (List Nat×Nat)},(∀x∈ts,Tok x)→ts≠[]→dG ((ts.map (·.1)).flatten)=ts.map (·.2)++[10]
 |[x],h,_=>by
  rw [bg,gi,br,fb,be,bg,gi];rcases h x (.head _) with ⟨e,hc⟩|⟨a,b,e,ha,hb,hv⟩
  ·rw [e,Eh,if_neg hc];rfl
  ·rw [e,uV,if_pos ⟨rfl,ha,hb⟩,if_pos rfl,hv];rfl
 |x::y::ts,h,_=>by
  have ih:=oO (ts:=y::ts) (fun z hz=>h z (.tail _ hz)) (by simp);have hne:((y::ts).map (·.1)).flatten≠[]:=by rw [bg,br];intro q;exact Lc (h y (.tail _ (.head _))) (jq.mp q).1
  show dG (x.1++((y::ts).map (·.1)).flatten)=x.2::((y::ts).map (·.2)++[10]);rcases h x (.head _) with ⟨e,hc⟩|⟨a,b,e,ha,hb,hv⟩
  ·rw [e,eh,rD hc hne,ih]
  ·rw [e]
   show dG (61::a::b::((y::ts).map (·.1)).flatten)=_;rw [uV,if_pos ⟨rfl,ha,hb⟩,if_neg hne,hv,ih]
theorem Fu (h:l.getLast? =some c) (hc:ie c=false):dY l=l:=by obtain ⟨hne,e⟩:=i7.mp h;subst e;delta dY;rw [sv,List.reverse_singleton,eh,List.dropWhile_cons,hc];simp
theorem kW (h:l.getLast? =some c) (hc:ie c=false):bJ l=dG l:=by delta bJ;rw [Fu h hc,if_neg (by rintro rfl;simp at h)]
theorem jB:bJ []=[10]:=by decide+kernel
def jA (p:List Nat):List (List Nat×Nat):=p.map fun c=>(aR c,c)
theorem oM (p:List Nat):(jA p).map (·.1)=p.map aR:=by delta jA;rw [cw];rfl
theorem oI (p:List Nat):(jA p).map (·.2)=p:=by delta jA;rw [cw];exact mj _
theorem sT (h:wF p): ∀x∈jA p,Tok x:=fun x hx=>by refine aE (ap.mp hx) fun c hc qz2=>?_;subst qz2;exact Dy c (h c hc).1
theorem pS (h:wF p):bJ ((p.map aR).flatten++[61])=p:=by rw [kW (c:=61) (by simp) (by decide+kernel)];have:=Gh (sT h);rwa [oM,oI] at this
theorem Ay: ∀c∈fI,c≠10→(c=32∧aR c=[32])∨(c=9∧aR c=[9])∨((aR c).getLast?.any fun d=>decide (d≠32∧d≠9∧ie d=false))=true:=by decide+kernel
theorem Dv: ∀c∈fI,((jG c).getLast?.any fun d=> !Unicode.isSpace d)=true:=by decide+kernel
theorem uM {p:List Nat} (h:wF p) {c:Nat} (hc:c∈fI):bJ ((p.map aR).flatten++jG c)=p++[c,10]:=by
 walk_at "T p, h c, hc";have hl:=Dv c hc;rw [sc] at hl;refine aE (hl) fun d h1 h2=>?_;have hne:jG c≠[]:=by intro q;rw [q] at h1;cases h1
 rw [kW (c:=d) (by rw [nu,h1];rfl) (by simpa using h2)];have:=oO (ts:=jA p++[(jG c,c)]) (fun x hx=>by
  rcases bq.mp hx with hx|hx
  ·exact sT h x hx
  ·rw [bk] at hx;subst hx;exact Hw c hc) (by simp)
 rw [bv,bv,oM,oI,ew] at this;simpa using this
theorem vM (h:wF p):(bI w (p.map aR).flatten).flatMap bJ=p++[10]:=by
 rcases ju p with rfl|⟨p0,c,rfl⟩
 ·delta bI
  rfl
 ·rw [nh] at*
  have h0:wF p0:=fun d hd=>h d (by simp [hd]);have hc:=h c (by simp);have ht:((p0++[c]).map aR).flatten=(p0.map aR).flatten++aR c:=by simp
  have hsp: ∀c:Nat,c∈fI→(aR c=[c])→(c=32∨c=9)→ ∀(code:List Nat),code=jG c→wF p0→wF (p0++[c])→
    ((if ((p0.map aR).flatten++[c]).length+2≤w then [((p0.map aR).flatten++[c]).dropLast++code] else if ((p0.map aR).flatten++[c]).length<w then [((p0.map aR).flatten++[c])++[61],[]] else [((p0.map aR).flatten++[c]).dropLast++[61],code]):List (List Nat)).flatMap bJ=p0++[c]++[10]:=by
   intro c hca hb hc code hcode h0 h;subst hcode;obtain hcr:=uM h0 hca;have hcr0:=uM (p:=[]) (fun d hd=>by cases hd) hca;rw [sj];split
   ·simp only [cx,j5,be,hcr];simp
   ·split
    ·have:=pS h
     rw [bv,ew] at this;simp only [bg,gi,br,fb,be,hb] at this;simp only [cx,j5,be,this,jB]
    ·simp only [cx,j5,be,pS h0]
     simp only [gi,fb,fp] at hcr0;rw [hcr0];simp
  rcases Ay c hc.1 hc.2 with ⟨rfl,hb⟩|⟨rfl,hb⟩|hd
  ·rw [ht,hb]
   delta bI;rw [if_pos (.inl (by simp))];dsimp only;have e:((p0.map aR).flatten++[32]).getLast? =some 32:=by simp
   simp only [e,if_true];exact hsp 32 hc.1 hb (.inl rfl) [61,50,48] rfl h0 h
  ·rw [ht,hb]
   delta bI;rw [if_pos (.inr (by simp))];dsimp only;obtain e:((p0.map aR).flatten++[9]).getLast? =some 9:=by simp
   obtain e9: ¬(some 9:Option Nat)=some 32:=by simp
   simp only [e,if_neg e9];exact hsp 9 hc.1 hb (.inr rfl) [61,48,57] rfl h0 h
  ·rw [sc] at hd
   refine aE (hd) fun d h1 h2=>?_;refine Ja (of_decide_eq_true h2) fun n32 n9 hs=>?_;have hl:((p0++[c]).map aR).flatten.getLast? =some d:=by rw [ht,nu,h1];rfl
   delta bI;rw [hl,if_neg (fun q=>q.elim (fun q=>n32 (ba q)) fun q=>n9 (ba q))];rw [cx,j5,be,kW hl hs];have:=oO (ts:=jA (p0++[c])) (sT h) (by simp [jA]);rwa [oM,oI] at this
theorem sU (hw:4≤w): ∀(n:Nat) (p:List Nat),p.length≤n→wF p→(bB w n (p.map aR)).flatMap bJ=p++[10]:=by
 intro zi;induction zi with
 |zero=>intro p hn h;have:p=[]:=jm (by simp_all);subst this;exact vM h
 |succ n ih=>
  intro p hn h;rw [eF];split
  ·rename_i hlt
   have hG: ∀t∈p.map aR,Gt t:=fun t ht=>by refine aE (ap.mp ht) fun c hc qz2=>?_;subst qz2;exact pL c (dJ c (h c hc).1).1
   refine Ja (uH hG (by exact aq (ax _ _) (by assumption)) hlt) fun g1 g2 g3=>?_;generalize cZ w (p.map aR)=k at*;obtain hk:1≤k:=by
    rcases Nat.eq_zero_or_pos k with e|e
    ·subst e
     obtain ht:Gt ((p.map aR).getD 0 []):=by rw [ao,ae g1];exact hG _ (cg g1)
     have:=ht.len;simp only [jg,fb,js,Nat.zero_add] at g3;exact hW 0x120202890488d50681502814841 0x200840100420 [_,_] hw this g3
    ·exact e
   rw [bl] at g1;rw [cx, ←List.map_take, ←List.map_drop,pS fun c hc=>h c (lz hc),ih (p.drop k) (by rw [f8];exact aW 0x486b1064a0a06190828 0x108401 [_,_,_] hn hk) fun c hc=>h c (j3 hc)];rw [←aa,fq]
  ·exact vM h
end
section
open PySem.Builtin PySem.Builtin.Str PySem.StrLaws
variable {t:List Nat}{w:Nat}
theorem vU {w:Nat} {t:List Nat}: ∀r∈bI w t, ∀d∈r,d∈t∨d∈[61,50,48,57]:=by
 walk_at "T w,t";walk_at "I r, hr d, hd";delta bI at hr;have hdl: ∀x∈t.dropLast,x∈t:=fun x hx=>List.dropLast_subset _ hx;obtain hcode: ∀code:List Nat,(code=[61,50,48]∨code=[61,48,57])→ ∀x∈code,x∈[61,50,48,57]:=by
  rintro code (rfl|rfl) x hx<;>revert x<;>decide
 split at hr
 ·dsimp only at hr
  have hc:=hcode (if t.getLast? =some 32 then [61,50,48] else [61,48,57]) (by split;exact .inl rfl;exact .inr rfl);split at hr
  ·rw [bk] at hr;subst hr
   rcases bq.mp hd with hd|hd
   ·exact .inl (hdl d hd)
   ·exact .inr (hc d hd)
  ·split at hr
   ·rcases ar.mp hr with rfl|hr
    ·rcases bq.mp hd with hd|hd
     ·exact .inl hd
     ·rw [bk] at hd;subst hd;exact .inr (by decide)
    ·rw [bk] at hr;subst hr;cases hd
   ·rcases ar.mp hr with rfl|hr
    ·rcases bq.mp hd with hd|hd
     ·exact .inl (hdl d hd)
     ·rw [bk] at hd;subst hd;exact .inr (by decide)
    ·rw [bk] at hr;subst hr;exact .inr (hc d hd)
 ·rw [bk] at hr;subst hr;exact .inl hd
theorem Fh: ∀(n:Nat) (ls:List (List Nat)), ∀r∈bB w n ls, ∀d∈r,d∈ls.flatten∨d∈[61,50,48,57]:=by
 intro zi;induction zi with
 |zero=>intro ls r hr d hd;exact vU r hr d hd
 |succ n ih=>
  intro ls r hr d hd;have hsub: ∀{k:Nat},(∀x∈(ls.take k).flatten,x∈ls.flatten)∧ ∀x∈(ls.drop k).flatten,x∈ls.flatten:=fun {k}=>
   ⟨fun x hx=>by obtain ⟨l,h1,h2⟩:=j4.mp hx;exact j4.mpr ⟨l,lz h1,h2⟩,
    fun x hx=>by obtain ⟨l,h1,h2⟩:=j4.mp hx;exact j4.mpr ⟨l,j3 h1,h2⟩⟩
  rw [eF] at hr;split at hr
  ·rcases ar.mp hr with rfl|hr
   ·rcases bq.mp hd with hd|hd
    ·exact .inl (hsub.1 d hd)
    ·rw [bk] at hd;subst hd;exact .inr (by decide)
   ·exact (ih _ r hr d hd).imp (hsub.2 d) id
  ·exact vU r hr d hd
theorem qN {w:Nat} {t:List Nat}:(bI w t).length≤2∧(bI w t).flatten.length≤t.length+3∧bI w t≠[]:=by
 walk_at "T w,t";delta bI;have hd:t.dropLast.length=t.length - 1:=no;split
 ·rename_i hl
  have ht:t≠[]:=by rintro rfl;simp at hl
  obtain ht:0<t.length:=gd.mpr ht;dsimp only;have hc:(if t.getLast? =some 32 then [61,50,48] else [61,48,57]:List Nat).length=3:=by split<;>rfl
  generalize (if t.getLast? =some 32 then [61,50,48] else [61,48,57]:List Nat)=code at*;split
  ·simp [hd,hc]<;>lia
  ·split
   ·simp
   ·simp [hd,hc]<;>(exact aQ 0x120a8285850198408 0x2008001 [_] ht)
 ·simp
theorem rB: ∀(n:Nat) (ls:List (List Nat)),(bB w n ls).length≤n+2∧(bB w n ls).flatten.length≤ls.flatten.length+n+3∧bB w n ls≠[]:=by
 walk_at "I zi,";induction zi with
 |zero=>intro ls;have:=qN (w:=w) (t:=ls.flatten);show (bI w ls.flatten).length≤_∧(bI w ls.flatten).flatten.length≤_∧bI w ls.flatten≠[];exact ⟨this.1,by simp_all,this.2.2⟩
 |succ n ih=>
  intro ls;rw [eF];split
  ·obtain h:=ih (ls.drop (cZ w ls))
   obtain e:(ls.take (cZ w ls)).flatten.length+(ls.drop (cZ w ls)).flatten.length=ls.flatten.length:=by rw [←aj, ←ew,fq]
   refine ⟨by rw [cn];simp_all,?_,by simp⟩;rw [br,aj,aj,er];exact aW 0x1250d0a505041a84a0a03250d0a214541a8a1 32801 [_,_,_,_,_] h.2.1 e
  ·have:=qN (w:=w) (t:=ls.flatten)
   exact ⟨by exact aQ 0x125090a0a04190901 33 [_,_] this.1,by exact aQ 0x1250d0a505031064a1a041 33 [_,_,_] this.2.1,this.2.2⟩
theorem jY: ∀{ls:List (List Nat)},ls≠[]→(aS ls).length+1=ls.flatten.length+ls.length
 |[],h=>absurd rfl h
 |[a],_=>by simp [aS]
 |a::b::r,_=>by have e:aS (a::b::r)=a++10::aS (b::r):=bR (by simp);have ih:=jY (ls:=b::r) (by simp);rw [e,br,aj,aj,cn,cn (a:=a)];exact aQ 0x28a5050450c2a0a14a0a041a288350502 0x108401 [_,_,_,_] ih
theorem zM (ls:List (List Nat)):(dl ls).length≤ls.length∧(dl ls).flatten.length≤ls.flatten.length:=by
 delta dl;split
 ·rename_i h
  obtain ⟨h1,h2⟩:=i7.mp h;refine ⟨by rw [no];exact Nat.sub_le _ _,?_⟩
  conv=>rhs;rw [h2]
  rw [h2];simp
 ·exact ⟨ay _,ay _⟩
def fG (w:Nat) (t:List Nat):List (List Nat):=(fY t).flatMap (dB w)
theorem pT (w:Nat) (t:List Nat):fG w t≠[]:=by delta fG;refine My (qe (fN t)) fun a r e=>?_;rw [e,cx];intro q;exact (rB (w:=w) a.length (a.map aR)).2.2 (jq.mp q).1
theorem mQ (h: ∀c∈t,c∈fI): ∀r∈fG w t, ∀d∈r,d≠10∧d≠13∧fm d=false:=by
 intro r hr d hd;refine aE (mr.mp hr) fun p hp hr=>?_;rcases Fh _ _ r hr d hd with q|q
 ·exact jS (mA h p hp) d (by delta bY;rw [List.flatMap_def];exact q)
 ·obtain hk: ∀d∈([61,50,48,57]:List Nat),d≠10∧d≠13∧fm d=false:=by decide+kernel
  exact hk d q
theorem Cv: ∀{ls:List (List Nat)},ls≠[]→ls.flatMap (fun p=>p++[10])=aS ls++[10]
 |[],h=>absurd rfl h
 |[a],_=>by exact aa ..
 |a::b::r,_=>by have e:aS (a::b::r)=a++10::aS (b::r):=bR (by simp);rw [cx,Cv (ls:=b::r) (by simp),e];simp
theorem Ai (hw:4≤w) (h: ∀c∈t,c∈fI):(fG w t).flatMap bJ=t++[10]:=by
 obtain hS:=mA h;delta fG;rw [List.flatMap_assoc];obtain this: ∀Q:List (List Nat),(∀p∈Q,wF p)→Q.flatMap (fun p=>(dB w p).flatMap bJ)=Q.flatMap fun p=>p++[10]:=by
  intro Q;induction Q with
  |nil=>intro _;rfl
  |cons p Q ih=>
   intro hQ;rw [cx,cx,ih fun q hq=>hQ q (.tail _ hq)]
   congr 1
   exact sU hw _ p (ay _) (hQ p (.head _))
 rw [this _ hS,Cv (fN t),jI]
theorem An {w:Nat} (hw:4≤w) {t:List Nat} (h: ∀c∈t,c∈fI) (hne:t≠[]):pD (aS (fG w t)) (dl (fG w t))=t:=by
 walk_at "T w, hw t, h hne";have hd:=Ai hw h;obtain hr:=pT w t;have hm:=mQ (w:=w) h;generalize fG w t=R at*;obtain hf: ∀p∈R,10∉p:=fun p hp q=>(hm p hp 10 q).1 rfl;have hje:aS R≠[]:=by
  intro q
  match R,hr with
  |[a],_=>have:a=[]:=q;subst this;rw [cx,j5,be,jB] at hd;apply hne;have:=congrArg gt hd;rw [aj] at this;exact jm (by simpa using this)
  |a::b::r,_=>have e:aS (a::b::r)=a++10::aS (b::r):=bR (by simp);rw [e] at q;simp at q
 obtain h13:(aS R).getLast? ≠some 13:=fun e=>by
  rcases jT (nk e) with q|⟨p,hp,q⟩
  ·cases q
  ·exact (hm p hp 13 q).2.1 rfl
 have hlast:=kP hje hf;delta pD;rw [if_neg hje];dsimp only;delta dl;by_cases hl:R.getLast? =some []
 ·rw [if_pos hl]
  obtain ⟨h1,h2⟩:=i7.mp hl;obtain e:R.dropLast.flatMap bJ=t:=by rw [h2] at hd ⊢;rw [sj];rw [ey,cx,j5,be,jB] at hd;exact List.append_cancel_right hd
  rw [e,if_neg (fun q=>q.1 (.inr (hlast.mpr hl)))]
 ·rw [if_neg hl,hd,if_pos ⟨by rintro (q|q);exact h13 q;exact hl (hlast.mp q),by simp⟩]
  simp
end
section
section
variable {H:List PO}{i:Nat}
variable {C:Cx} {st:St} {K:PV→St→Prop} {n:Nat}
abbrev wA:=List (Int×Int)
def qL (P:wA) (k j:Nat):Bool:=P.any fun p=>p.1==(k:Int)&&p.2==(j:Int)
def tO (P:wA):List (List Nat):=(am 4).map fun k=>(am 4).filter (qL P k)
def lN (r:List (List Nat)):List (List Nat):=r.map fun row=>(am 4).filter fun k=>row.contains k||row.any fun one=>(r.getD one []).contains k
def bV (P:wA):Nat→List (List Nat)
 |0=>tO P
 |t+1=>lN (bV P t)
def dK (r:List (List Nat)):List Nat:=(am 4).filter fun k=>((r.getD k []++[k]).filter fun j=>(r.getD j []).contains j).isEmpty
def pJ (P:wA) (h:List Nat):List Nat:=(am 4).map fun k=>(((am 4).filter (qL P k)).map fun j=>h.getD j 0+1).foldl max 0
def bC (P:wA):Nat→List Nat
 |0=>jh 4 0
 |t+1=>pJ P (bC P t)
def bO (free h:List Nat):List (List Nat):=(am 4).map fun height=>free.filter fun k=>h.getD k 0==height
def iV (P:wA):List PyData:=P.map fun p=> .tuple [.int p.1, .int p.2]
def fA (H:List PO) (i:Nat) (P:wA):Prop:= ∃xs,H[i]? =some (.list xs)∧DeepAll H xs (iV P)
theorem fA.app {J:List PO} {P:wA} (h:fA H i P):fA (H++J) i P:=by refine aE (h) fun xs h1 h2=>?_;exact ⟨xs,old_get h1,h2.app⟩
theorem kR (P:wA): ∀t,(bV P t).length=4:=by
 intro zi;induction zi with
 |zero=>show (tO P).length=4;simp [tO]
 |succ t ih=>exact (bl ..).trans ih
theorem qX (P:wA): ∀t, ∀row∈bV P t, ∀x∈row,x<4
 |0,row,hr,x,hx=>by refine aE (ap.mp hr) fun k _ qz2=>?_;subst qz2;exact bj.mp (bp.mp hx).1
 |t+1,row,hr,x,hx=>by refine aE (ap.mp hr) fun k _ qz2=>?_;subst qz2;exact bj.mp (bp.mp hx).1
theorem lL (P:wA): ∀t, ∀row∈bV P t,row.length≤4
 |0,row,hr=>by refine aE (ap.mp hr) fun k _ qz2=>?_;subst qz2;exact bw _ _
 |t+1,row,hr=>by refine aE (ap.mp hr) fun k _ qz2=>?_;subst qz2;exact bw _ _
theorem pP (P:wA) (t:Nat) (row:List Nat) (h:row∈bV P t):row.length≤big:=aq (lL P t row h) (by decide)
theorem lT (P:wA): ∀t,(bC P t).length=4
 |0=>rfl
 |t+1=>by exact (bl ..).trans k9
theorem sI: ∀(l:List Nat) (a:Nat),a≤l.foldl max a∧ ∀x∈l,x≤l.foldl max a:=by
 intro zi;induction zi with
 |nil=>intro a;exact ⟨ay _,fun x hx=>by cases hx⟩
 |cons b r ih=>
  intro a;obtain ⟨h1,h2⟩:=ih (max a b);rw [p9];refine ⟨by exact aQ 0x9083213461 0x2108021 [_,_,_] h1,fun x hx=>?_⟩;rcases ar.mp hx with rfl|hx
  ·exact aQ 0x9083213423 0x108421 [_,_,_] h1
  ·exact h2 x hx
theorem qD: ∀(l:List Nat) (a:Nat),l.foldl max a=a∨l.foldl max a∈l:=by
 intro zi;induction zi with
 |nil=>intro a;exact .inl rfl
 |cons b r ih=>
  intro a;rw [p9];rcases ih (max a b) with h|h
  ·rw [h]
   rcases m0 a b with hab|hab
   ·rw [Nat.max_eq_right hab];exact .inr (.head _)
   ·rw [Nat.max_eq_left hab];exact .inl rfl
  ·exact .inr (.tail _ h)
theorem Mi {l:List Nat} {m:Int} (h:m∈(0::l).map fun k:Nat=>(k:Int)) (h2: ∀j∈(0::l).map fun k:Nat=>(k:Int),j≤m):m=(l.foldl max 0:Nat):=by
 refine aE (ap.mp h) fun x hx qz2=>?_;subst qz2;obtain h3: ∀y∈0::l,y≤x:=fun y hy=>by have:=h2 y (du hy);exact jd.mp (by assumption)
 obtain ⟨g1,g2⟩:=sI l 0;obtain h4:x≤l.foldl max 0:=by
  rcases ar.mp hx with rfl|hx
  ·assumption
  ·exact g2 x hx
 obtain h5:l.foldl max 0≤x:=by
  rcases qD l 0 with h|h
  ·rw [h];exact cz _
  ·exact h3 _ (.tail _ h)
 exact aW 0x5dc2706420c822 0x2008021 [_,_] h4 h5
theorem Jz {t:Nat} {P:wA} {k j:Nat} (S:bS C n) (hi:fA st.h i P) (ht:st.h[t]? =some (.tuple [.int k, .int j])) (h:K (.bool (qL P k j)) st):P2 C (d0 .In) (.ref t) (.ref i) st K:=by
 obtain ⟨xs,h1,h2⟩:=hi;refine Ny S (xs:=iV P) (d:= .tuple [.int k, .int j]) (.tuple ht (.cons (.int _) (.cons (.int _) .nil))) (.list h1 h2) rfl ?_ ?_
 ·delta iV
  clear h1 h2 h;induction P with
  |nil=>rfl
  |cons a r ih=>exact ih
 ·obtain e:((iV P).any fun y=>oi y (.tuple [.int k, .int j]))=qL P k j:=by
   delta iV qL;rw [o5]
   congr 1
   funext p
   show (p.1==(k:Int)&&(p.2==(j:Int)&&true))=_;rw [Bool.and_true]
  rw [e];exact h
theorem DeepAll.append {ps qs:List PV} {ds es:List PyData} (y:DeepAll H ps ds) (k:DeepAll H qs es):DeepAll H (ps++qs) (ds++es):=
 DeepAll.rec (motive_1:=fun _ _ _=>True) (motive_2:=fun ps ds _=>DeepAll H (ps++qs) (ds++es)) trivial (fun _=>trivial) (fun _=>trivial) (fun _=>trivial) (fun _ _ _=>trivial) (fun _ _ _=>trivial) k (fun h _ _ s=> .cons h s) y
def Gw (rows:List (List Nat)) (a:Nat):PV→Option PV
 | .ref x=>if (!(rows.getD (x - a) []).isEmpty)=true then some (.ref x) else none
 |_=>none
theorem Ab {a:Nat} {rows:List (List Nat)} (h: ∀m row,rows[m]? =some row→H[a+m]? =some (.list (pn row))):
  DeepAll H ((cQ a rows.length).filterMap (Gw rows a)) ((rows.filter fun r=> !r.isEmpty).map fun r=> .list (r.map fun k:Nat=> .int k)):=by
 delta cQ;rw [mf];obtain key: ∀k,k≤rows.length→DeepAll H ((am k).filterMap fun m=>if (!(rows.getD m []).isEmpty)=true then some (PV.ref (a+m)) else none) (((rows.take k).filter fun r=> !r.isEmpty).map fun r=> .list (r.map fun k:Nat=> .int k)):=by
  intro k;induction k with
  |zero=>intro _;exact .nil
  |succ k ih=>
   intro hk;have hk':k<rows.length:=hk;rw [i8,r8,d7,ae hk',gz,bv];refine (ih (by exact de (by assumption))).append ?_;obtain hr:rows.getD k []=rows[k]:=by rw [ao,ae hk'];rfl
   simp only [ge,List.filterMap_nil,hr,Option.toList_some,c9,List.filter_nil];by_cases hb:(!(rows[k]).isEmpty)=true
   ·rw [if_pos hb,if_pos hb]
    exact .cons (.list (h k _ (ae hk')) (dM _ _)) .nil
   ·rw [if_neg hb,if_neg hb];exact .nil
 have:=key rows.length (ay _);rw [iz] at this;obtain e:(fun m=>if (!(rows.getD m []).isEmpty)=true then some (PV.ref (a+m)) else none)=(Gw rows a∘fun m=>PV.ref (a+m)):=by
  funext m
  show _=if (!(rows.getD (a+m - a) []).isEmpty)=true then some (PV.ref (a+m)) else none;rw [show a+m - a=m by simp]
 rw [e] at this;exact this
set_option maxHeartbeats 1000000 in
inductive Re (h0:List PO) (i:Nat) (P:wA) (t:Nat) (s:St):Prop
 |mk (ht:t≤4) (J:List PO) (r:Nat) (tv:Option PV) (e:s=⟨[some (.ref i),some (.ref (h0.length+r)),tv,none,none,none],h0++J⟩) (h:kT (h0++J) (h0.length+r) (bV P t)):Re h0 i P t s
inductive Qk (h0:List PO) (i ri nf:Nat) (P:wA) (t:Nat) (s:St):Prop
 |mk (ht:t≤4) (J:List PO) (r:Nat) (tv:Option PV) (e:s=⟨[some (.ref i),some (.ref ri),tv,some (.ref nf),some (.ref (h0.length+r)),none],h0++J⟩) (h:J[r]? =some (.list (pn (bC P t)))):Qk h0 i ri nf P t s
theorem uQ {i:Nat} {P:wA} (S:bS C (n+1)) (hi:fA st.h i P)
  (h: ∀J R,dX (st.h++J) (.ref R) (.tuple [.bool (decide ((dK (bV P 4)).length<4)), .list (((bO (dK (bV P 4)) (bC P 4)).filter fun r=> !r.isEmpty).map fun r=> .list (r.map fun k:Nat=> .int k))])→K (.ref R) ⟨st.v,st.h++J⟩):PC C (.ref 235) [.ref i] st K:=by
 walk_at "T C,st,K,n,i,P S hi h";refine jO S ["pairs"] ["reach","turn","free","heights","rounds"] S.kn.f_law_told.2.2 rfl (fun _ _ _ _ _ _ _ _=>iK fun v=>rfl) (by decide) (by decide+kernel) ?_;walk_at "I zz, SD";refine s_cons ?_;ext;refine Di ["k"] SD S.qf 6 (by kernel_rfl) (bP SD S.qf ?_);ext;refine ⟨4,rfl,by decide,rfl,(am 4).map (fun k:Nat=>PV.int k),fun q=>match q with| .int k=>pn ((am 4).filter (qL P k.toNat))|_=>[],by decide,?_,?_,?_⟩
 ·exact fun k t=>cG _ _ _
 ·walk_at "I L', SB QB q,t hq"
  refine Pl ?_;walk_at "I κ4, kk4";walk_at "v";obtain ho139:=ap.mp hq;walk_at "E ho139 : k, hk qz2";subst qz2;ext;refine eB ["j"] SB QB 7 (by kernel_rfl) (bP SB QB ?_);ext;refine ⟨4,rfl,by decide,rfl,(am 4).map (fun k:Nat=>PV.int k),fun q=>match q with| .int j=>if qL P k j.toNat=true then some (.int j) else none|_=>none,by decide,fun k t=>cG _ _ _,?_,?_⟩
  ·intro L'' SB2 QB2 q acc hq
   refine Hv fun κ5 kk5 κ5' kj5=>?_;walk_at "v";refine aE (ap.mp hq) fun j hj qz2=>?_;subst qz2;ext;refine ⟨aC (by show 2≤100000;decide),?_⟩;ext;refine Jz SB2 (P:=P) (k:=k) (j:=j) ?_ ?_ ?_
   ·exact hi.app.app.app
   ·simp
   ext;refine aY (fun h4=>?_) (fun h4=>?_)
   ·ext
    exact ⟨if_pos h4,trivial,fun j w=>aF rfl,_,rfl⟩
   ·walk_at "kk";exact ⟨if_neg (by rw [bo,h4];exact cr),fun j w=>aF rfl,_,rfl⟩
  ·rw [aZ (p:=qL P k) (g:=fun k=>PV.int k) (fun j _=>rfl), ←dI]
   walk_at "kk";exact ⟨rfl,fun j w=>aF rfl,rfl⟩
 ext;refine hV S.qf (bP SD S.qf ?_);ext;refine ⟨4,rfl,by decide,?_⟩;let Inv:=Re st.h i P;refine ⟨Inv,4,?_,?_,?_,?_,?_⟩
 ·refine ⟨by decide,_,0,none,rfl,?_⟩
  have:=kT.new (H:=st.h) (J:=[]) (rows:=tO P);rw [be] at this;exact this
 ·rintro k _ q ⟨hk,J,r,tv,rfl,hR⟩ hq
  simp only [nZ,cy] at hq;split at hq
  ·assumption
  ·cases hq
 ·intro t zs q zI hq
  refine Jq fun κ1 kk1=>?_;obtain ⟨ht,J,r,tv,rfl,hR⟩:=zI;simp only [nZ,cy] at hq;split at hq
  case isFalse=>cases hq
  rename_i htl
  cases hq;have hR0:=hR;refine aE (hR) fun a hra hrows=>?_;have hl4:=kR P t;have hlt4:=qX P t;have hrz:=pP P t;generalize hrr:bV P t=rows at*;ext;refine Di ["row"] SD S.qf 6 (by kernel_rfl) (cT S.qf ?_);ext;refine ⟨_,cN (xs:=cQ a rows.length) S.qf hra,rfl,cQ a rows.length,fun q=>match q with| .ref x=>pn ((am 4).filter fun k=>(rows.getD (x - a) []).contains k||(rows.getD (x - a) []).any fun one=>(rows.getD one []).contains k)|_=>[],?_,?_,?_,?_⟩
  ·rw [eK,hl4];decide
  ·intro k t;delta iS;rw [old_get hra]
  ·intro L' SB QB q tl hq
   refine Pl fun κ4 kk4=>?_;walk_at "v";refine aE (ap.mp hq) fun m hm qz2=>?_;subst qz2;have hm:=bj.mp hm;have hrow:rows.getD m []=rows[m]:=by rw [ao,ae hm];rfl
   have hrowH:=hrows m rows[m] (ae hm);have hx4: ∀x∈rows[m],x<4:=hlt4 _ (cg hm);obtain hrowz:rows[m].length≤big:=hrz _ (cg hm);generalize rows[m]=row at*;ext;refine eB ["k"] SB QB 7 (by kernel_rfl) (bP SB QB ?_);ext;refine ⟨4,rfl,by decide,rfl,(am 4).map (fun k:Nat=>PV.int k),fun q=>match q with| .int k=>if (row.contains k.toNat||row.any fun one=>(rows.getD one []).contains k.toNat)=true then some (.int k) else none|_=>none,by decide,fun k t=>cG _ _ _,?_,?_⟩
   ·intro L'' SB2 QB2 q acc hq
    refine Hv fun κ5 kk5 κ5' kj5=>?_;walk_at "v";refine aE (ap.mp hq) fun k hk qz2=>?_;subst qz2;ext;refine xD (l:=row) (by exact old_get (old_get hrowH)) ?_;ext;refine aY (fun h4=>?_) (fun h4=>?_)
    ·ext
     exact ⟨if_pos (by rw [bo,h4];rfl),trivial,cU.now fun j w=>aF rfl⟩
    ·ext
     refine eB ["one"] SB2 QB2 8 (by kernel_rfl) (cT QB2 ?_);ext;refine ⟨_,cN (xs:=pn row) QB2 (by exact old_get (old_get hrowH)),rfl,row.map (fun k:Nat=>PV.int k),fun q=>match q with| .int one=>if (rows.getD one.toNat []).contains k=true then some (.int one) else none|_=>none,?_,?_,?_,?_⟩
     ·rw [bl];exact hrowz
     ·intro k' t'
      delta iS;have:(st.h++J++(tl++([PO.list acc]++t')))[a+m]? =some (.list (pn row)):=old_get hrowH;simp only [aa] at this ⊢;rw [this,dI]
     ·intro L3 SB3 QB3 q acc3 hq
      refine Hv fun κ6 kk6 κ6' kj6=>?_;walk_at "v";refine aE (ap.mp hq) fun one hone qz2=>?_;subst qz2;have ho4:one<4:=hx4 one hone;have hone':rows.getD one []=rows[one]:=by rw [ao,ae (by simp_all)];rfl
      ext;refine gO (xs:=cQ a rows.length) (p:= .ref (a+one)) (by exact old_get (old_get (old_get hra))) ⟨by exact bi _,by lia⟩ (by exact bi _) (by rw [bo];exact lC (by simp_all)) ?_;ext;refine xD (l:=rows[one]) (by exact old_get (old_get (old_get (hrows one _ (ae (by simp_all)))))) ?_;ext;refine aY (fun h5=>?_) (fun h5=>?_)
      ·ext
       exact ⟨if_pos (by rw [bo,hone',h5]),trivial,cU.now fun j w=>aF rfl⟩
      ·walk_at "kk";exact ⟨if_neg (by rw [bo,hone',h5];exact cr),cU.now fun j w=>aF rfl⟩
     ·rw [aZ (p:=fun one=>(rows.getD one []).contains k) (g:=fun k=>PV.int k) (fun j _=>rfl), ←dI]
      ext;refine ⟨by decide,?_⟩;ext;refine zH SB2 (l:=row.filter fun one=>(rows.getD one []).contains k) (by simp) (by simp) ?_;obtain e5:(!(row.filter fun one=>(rows.getD one []).contains k).isEmpty)=row.any fun one=>(rows.getD one []).contains k:=by rw [fa];simp
      rw [e5];ext;refine aY (fun h6=>?_) (fun h6=>?_)
      ·ext
       exact ⟨if_pos (by rw [bo,h4,h6];rfl),trivial,fun j w=>aF rfl,_,aa _ _ _⟩
      ·ext
       exact ⟨if_neg (by rw [bo,h4,h6];exact cr),fun j w=>aF rfl,_,aa _ _ _⟩
   ·rw [aZ (p:=fun k=>row.contains k||row.any fun one=>(rows.getD one []).contains k) (g:=fun k=>PV.int k) (fun j _=>rfl), ←dI]
    walk_at "kk";refine ⟨rfl,fun j w=>aF rfl,?_⟩;have e7:a+m - a=m:=by simp
    simp only [e7,hrow]
  ·ext
   have eR:(cQ a rows.length).map (fun q=>PO.list (match q with| .ref x=>pn ((am 4).filter fun k=>(rows.getD (x - a) []).contains k||(rows.getD (x - a) []).any fun one=>(rows.getD one []).contains k)|_=>[]))=(lN rows).map fun r=> .list (pn r):=by
    refine List.ext_getElem? fun m=>?_;delta lN;rw [b8,cw,b8] at ⊢;by_cases hm:m<rows.length
    ·rw [lC hm,ae hm] at ⊢
     have e7:a+m - a=m:=by simp
     have hrow:rows.getD m []=rows[m]:=by rw [ao,ae hm];rfl
     simp only [Option.map_some,e7,hrow];rfl
    ·rw [ft (by rw [eK];exact fe.mp (by assumption)),ft (by exact fe.mp (by assumption))] at ⊢;rfl
   rw [eR];obtain e9:(lN rows).length=(cQ a rows.length).length:=by rw [eK];exact bl ..
   refine .inl ⟨by assumption,J++(.list (cQ ((st.h++J).length+1) (cQ a rows.length).length)::(lN rows).map fun r=> .list (pn r)),J.length,some (.int t),?_,?_⟩
   ·rw [←aa]
    obtain e10:(st.h++J).length=st.h.length+J.length:=aj;rw [e10];rfl
   ·have:=kT.new (H:=st.h++J) (J:=[]) (rows:=lN rows)
    rw [be,e9] at this;rw [←aa, ←aj];show kT _ _ (lN (bV P t));rw [hrr];exact this
 ·rintro t _ ⟨ht,_⟩;simp [nZ]
 ·rintro t _ ⟨ht,J,r,tv,rfl,hR⟩ hq
  simp only [nZ,cy] at hq;split at hq
  ·cases hq
  rename_i ht2
  obtain this:t=4:=by exact aW 0x14220322203b99101 0x2008021 [_] ht ht2
  subst this;refine aE (hR) fun a hra hrows=>?_;have hl4:=kR P 4;have hlt4:=qX P 4;obtain hrz:=pP P 4;have hi2:fA (st.h++J) i P:=hi.app;have h2: ∀J' R,dX (st.h++J++J') (PV.ref R) (.tuple [.bool (decide ((dK (bV P 4)).length<4)), .list (((bO (dK (bV P 4)) (bC P 4)).filter fun r=> !r.isEmpty).map fun r=> .list (r.map fun k:Nat=> .int k))])→K (.ref R) ⟨st.v,st.h++J++J'⟩:=by intro J' R hd;rw [aa] at hd ⊢;exact h _ _ hd
  clear h hi;generalize st.h.length+r=ri at*;generalize st.h++J=H at*;generalize hrr:bV P 4=rows at*;have hro: ∀m,m<4→H[a+m]? =some (.list (pn (rows.getD m []))):=by
   intro m hm;obtain this:rows.getD m []=rows[m]:=by rw [ao,ae (by simp_all)];rfl
   rw [this];exact hrows m _ (ae (by simp_all))
  have hx4: ∀m,m<4→ ∀x∈rows.getD m [],x<4:=by
   walk_at "I m hm";obtain this:rows.getD m []=rows[m]:=by rw [ao,ae (by simp_all)];rfl
   rw [this];exact hlt4 _ (cg _)
  have hrz2: ∀m,(rows.getD m []).length≤50:=by
   walk_at "I m";rw [ao];by_cases hm:m<rows.length
   ·rw [ae hm]
    have:=lL P 4 _ (by rw [hrr];exact cg hm);exact aq this (by decide)
   ·rw [ft (by exact fe.mp (by assumption))];exact cz _
  have og {x:Nat} {o:PO} (e:H[x]? =some o) (t:List PO):(H++t)[x]? =some o:=old_get e;ext;refine bM ["k"] SD S.qf 6 (by kernel_rfl) (bP SD S.qf ?_);ext;refine ⟨4,rfl,by decide,rfl,(am 4).map (fun k:Nat=>PV.int k),fun q=>match q with| .int k=>if ((rows.getD k.toNat []++[k.toNat]).filter fun j=>(rows.getD j []).contains j).isEmpty=true then some (.int k) else none|_=>none,by decide,fun k t=>cG _ _ _,?_,?_⟩
  ·intro L' SB QB q acc hq
   refine Hv fun κ4 kk4 κ4' kj4=>?_;walk_at "v";refine aE (ap.mp hq) fun k hk qz2=>?_;subst qz2;have hk:=bj.mp hk;ext;refine eB ["j"] SB QB 7 (by kernel_rfl) (cT QB ?_);ext;refine gO (xs:=cQ a rows.length) (p:= .ref (a+k)) (og hra _) ⟨by exact bi _,by lia⟩ (by exact bi _) (by rw [bo];exact lC (by simp_all)) ?_;ext;refine ⟨aC (by show 1≤100000;decide),?_⟩;ext;refine iH (xs:=pn (rows.getD k [])) (ys:=pn [k]) (by exact old_get (old_get (hro k hk))) (by simp) (by rw [bE];exact aC (by have:=hrz2 k;show _+1≤_;exact co (by assumption) (by decide))) ?_;rw [←mS];refine ⟨_,cN (xs:=pn (rows.getD k []++[k])) QB (by simp),rfl,(rows.getD k []++[k]).map (fun k:Nat=>PV.int k),fun q=>match q with| .int j=>if (rows.getD j.toNat []).contains j.toNat=true then some (.int j) else none|_=>none,?_,?_,?_,?_⟩
   ·rw [bl,aj];exact aC (by have:=hrz2 k;show _+1≤_;exact co (by assumption) (by decide))
   ·intro k' t'
    delta iS;rw [aa,eh,cJ,dI]
   ·intro L3 SB3 QB3 q acc3 hq
    refine Hv fun κ6 kk6 κ6' kj6=>?_;walk_at "v";refine aE (ap.mp hq) fun j hj qz2=>?_;subst qz2;obtain hj4:j<4:=by
     rcases bq.mp hj with hj|hj
     ·exact hx4 k hk j hj
     ·rw [bk] at hj;subst hj;exact hk
    ext;refine gO (xs:=cQ a rows.length) (p:= .ref (a+j)) (by exact old_get (old_get (old_get (old_get hra)))) ⟨by exact bi _,by lia⟩ (by exact bi _) (by rw [bo];exact lC (by simp_all)) ?_;ext;refine xD (l:=rows.getD j []) (by exact old_get (old_get (old_get (old_get (hro j hj4))))) ?_;ext;refine aY (fun h5=>?_) (fun h5=>?_)
    ·ext
     exact ⟨if_pos (by rw [bo,h5]),trivial,cU.now fun j w=>aF rfl⟩
    ·walk_at "kk";exact ⟨if_neg (by rw [bo,h5];exact cr),cU.now fun j w=>aF rfl⟩
   ·rw [aZ (p:=fun j=>(rows.getD j []).contains j) (g:=fun k=>PV.int k) (fun j _=>rfl), ←dI]
    ext;refine ⟨by decide,?_⟩;ext;refine Ic SB (l:=(rows.getD k []++[k]).filter fun j=>(rows.getD j []).contains j) (by simp) (by simp) ?_;ext;refine aY (fun h6=>?_) (fun h6=>?_)
    ·ext
     exact ⟨if_pos (by rw [bo];exact h6),trivial,fun j w=>aF rfl,_,by simp only [aa];rfl⟩
    ·ext
     exact ⟨if_neg (by rw [bo,h6];exact cr),fun j w=>aF rfl,_,by simp only [aa];rfl⟩
  rw [aZ (p:=fun k=>((rows.getD k []++[k]).filter fun j=>(rows.getD j []).contains j).isEmpty) (g:=fun k=>PV.int k) (fun j _=>rfl), ←dI];obtain efree:((am 4).filter fun k=>((rows.getD k []++[k]).filter fun j=>(rows.getD j []).contains j).isEmpty)=dK rows:=rfl;rw [efree];ext;refine ⟨aC (by show 1≤100000;decide),?_⟩;ext;refine Ko (xs:=pn [0]) (by simp) (by decide) (by decide) (by decide) ?_;ext
  try dsimp only
  generalize hfree:dK rows=free at*;obtain ⟨H1,hH1⟩: ∃H1,H1=H++[PO.list (pn free)]:=⟨_,rfl⟩;have hfz:free.length≤4:=by rw [←hfree];exact bw _ _
  obtain hf4: ∀x∈free,x<4:=by rw [←hfree];exact fun x hx=>bj.mp (bp.mp hx).1
  have hgf:H1[H.length]? =some (.list (pn free)):=by rw [hH1];simp
  obtain hi3:fA H1 i P:=by rw [hH1];exact hi2.app
  obtain h3: ∀J' R,dX (H1++J') (PV.ref R) (.tuple [.bool (decide (free.length<4)), .list (((bO free (bC P 4)).filter fun r=> !r.isEmpty).map fun r=> .list (r.map fun k:Nat=> .int k))])→K (.ref R) ⟨st.v,H1++J'⟩:=by intro J' R hd;rw [hH1,aa] at hd ⊢;exact h2 _ _ hd
  rw [←hH1];clear h2 hi2 og hro hx4 hrows hlt4 hrz hrz2;refine hV S.qf (bP SD S.qf ?_);ext;refine ⟨4,rfl,by decide,?_⟩;let Inv2:=Qk H1 i ri H.length P;refine ⟨Inv2,4,?_,?_,?_,?_,?_⟩
  ·refine ⟨by decide,[PO.list [.int 0], .list (pn (bC P 0))],1,tv,?_,rfl⟩
   have e:(jh (Int.toNat 4) (pn [0])).flatten=pn (bC P 0):=rfl;rw [e];simp
  ·rintro k _ q ⟨hk,J,r,tv,rfl,hR⟩ hq
   simp only [nZ,cy] at hq;split at hq
   ·assumption
   ·cases hq
  ·intro t zs q zI hq
   refine Jq fun κ1 kk1=>?_;obtain ⟨ht,J,r,tv,rfl,hR⟩:=zI;simp only [nZ,cy] at hq;split at hq
   case isFalse=>cases hq
   rename_i htl
   cases hq;obtain hhl:=lT P t;obtain hstepE:bC P (t+1)=pJ P (bC P t):=rfl;generalize bC P t=hs at*;ext;refine bM ["k"] SD S.qf 6 (by kernel_rfl) (bP SD S.qf ?_);ext;refine ⟨4,rfl,by decide,rfl,(am 4).map (fun k:Nat=>PV.int k),fun q=>match q with| .int k=>if (fun _=>true) k.toNat=true then some (.int ((((am 4).filter (qL P k.toNat)).map fun j=>hs.getD j 0+1).foldl max 0:Nat)) else none|_=>none,by decide,fun k t=>cG _ _ _,?_,?_⟩
   ·intro L' SB QB q acc hq
    refine Hv fun κ4 kk4 κ4' kj4=>?_;walk_at "v";refine aE (ap.mp hq) fun k hk qz2=>?_;subst qz2;have hk:=bj.mp hk;ext;refine ⟨aC (by show 1≤100000;decide),?_⟩;refine eB ["j"] SB QB 7 (by kernel_rfl) (bP SB QB ?_);ext;refine ⟨4,rfl,by decide,rfl,(am 4).map (fun k:Nat=>PV.int k),fun q=>match q with| .int j=>if qL P k j.toNat=true then some (.int (hs.getD j.toNat 0+1:Nat)) else none|_=>none,by decide,fun k t=>cG _ _ _,?_,?_⟩
    ·intro L'' SB2 QB2 q acc hq
     refine Hv fun κ5 kk5 κ5' kj5=>?_;walk_at "v";refine aE (ap.mp hq) fun j hj qz2=>?_;subst qz2;have hj:=bj.mp hj;ext;refine ⟨aC (by show 2≤100000;decide),?_⟩;ext;refine Jz SB2 (P:=P) (k:=k) (j:=j) ?_ ?_ ?_
     ·exact hi3.app.app.app.app.app
     ·simp
     ext;refine aY (fun h4=>?_) (fun h4=>?_)
     ·ext
      refine gO (xs:=pn hs) (p:= .int (hs.getD j 0:Nat)) (by rw [Ot];rw [cK];exact old_get hR) ⟨by exact bi _,by lia⟩ (by exact bi _) (by rw [bo];exact pV (by simp_all)) ?_;ext;exact ⟨if_pos (by rw [bo];exact h4),trivial,fun j w=>aF rfl,_,rfl⟩
     ·walk_at "kk";exact ⟨if_neg (by rw [bo,h4];exact cr),fun j w=>aF rfl,_,rfl⟩
    ·rw [aZ (p:=qL P k) (g:=fun j=>PV.int (hs.getD j 0+1:Nat)) (fun j _=>rfl)]
     have e1:((am 4).filter (qL P k)).map (fun j=>PV.int (hs.getD j 0+1:Nat))=pn (((am 4).filter (qL P k)).map fun j=>hs.getD j 0+1):=by rw [dI,cw];rfl
     rw [e1];obtain hz3:(((am 4).filter (qL P k)).map fun j=>hs.getD j 0+1).length≤4:=by rw [bl];exact bw _ _
     generalize hl3:(((am 4).filter (qL P k)).map fun j=>hs.getD j 0+1)=l3 at*;ext;refine iH (xs:=pn [0]) (ys:=pn l3) (by simp) (by simp) (by rw [bE,bE];exact aC (by show 1+_≤_;exact aQ 0x2430d4095042891101 33 [_] hz3)) ?_;rw [←mS];ext;refine Eo SB (l:=(0::l3).map fun k:Nat=>(k:Int)) (by simp) (by simp) fun m hm hmx=>?_;rw [Mi hm hmx];walk_at "kk";exact ⟨by rw [←hl3];rfl,trivial,fun j w=>aF rfl,_,by simp only [aa];rfl⟩
   ·rw [aZ (p:=fun _=>true) (g:=fun k=>PV.int ((((am 4).filter (qL P k)).map fun j=>hs.getD j 0+1).foldl max 0:Nat)) (fun j _=>rfl)]
    have e1:((am 4).filter (fun _=>true)).map (fun k=>PV.int ((((am 4).filter (qL P k)).map fun j=>hs.getD j 0+1).foldl max 0:Nat))=pn (pJ P hs):=by delta pJ;rw [dI,cw,oj.mpr (fun _ _=>rfl)];rfl
    rw [e1];ext;refine .inl ⟨by assumption,J++[.list (pn (pJ P hs))],J.length,some (.int t),?_,by rw [hstepE];simp⟩;rw [←aa, ←aj];rfl
  ·rintro t _ ⟨ht,_⟩;simp [nZ]
  ·rintro t _ ⟨ht,J,r,tv,rfl,hR⟩ hq
   simp only [nZ,cy] at hq;split at hq
   ·cases hq
   rename_i ht2
   obtain this:t=4:=by exact aW 0x14220322203b99101 0x2008021 [_] ht ht2
   subst this;have hhl:=lT P 4;generalize bC P 4=hs at*;ext;refine Md ["height"] SD S.qf 6 (by kernel_rfl) (bP SD S.qf ?_) (hx:=by rfl) (hk:=by rfl) (hsw:=by rfl);ext;refine ⟨4,rfl,by decide,rfl,(am 4).map (fun k:Nat=>PV.int k),fun q=>match q with| .int height=>pn (free.filter fun k=>hs.getD k 0==height.toNat)|_=>[],by decide,fun k t=>cG _ _ _,?_,?_⟩
   ·intro L' SB QB q t hq
    refine Pl fun κ4 kk4=>?_;walk_at "v";refine aE (ap.mp hq) fun height hk qz2=>?_;subst qz2;ext;refine eB ["k"] SB QB 7 (by kernel_rfl) (cT QB ?_);ext;refine ⟨_,cN (xs:=pn free) QB (by exact old_get (old_get hgf)),rfl,free.map (fun k:Nat=>PV.int k),fun q=>match q with| .int k=>if (hs.getD k.toNat 0==height)=true then some (.int k) else none|_=>none,?_,?_,?_,?_⟩
    ·rw [bl];exact aC (by exact aq (by assumption) (ax _ _))
    ·intro k' t'
     delta iS;have:(H1++(J++(t++t')))[H.length]? =some (.list (pn free)):=old_get hgf;simp only [aa] at this ⊢;rw [this,dI]
    ·intro L'' SB2 QB2 q acc hq
     refine Hv fun κ5 kk5 κ5' kj5=>?_;walk_at "v";refine aE (ap.mp hq) fun k hk qz2=>?_;subst qz2;have hk4:=hf4 k hk;ext;refine gO (xs:=pn hs) (p:= .int (hs.getD k 0:Nat)) (by rw [vS];rw [cK];exact old_get hR) ⟨by exact bi _,by lia⟩ (by exact bi _) (by rw [bo];exact pV (by simp_all)) ?_;ext;obtain e1:((hs.getD k 0:Nat)==(height:Nat))=(((hs.getD k 0:Nat):Int)==(height:Int)):=by rw [fa,beq_iff_eq,beq_iff_eq];lia
     rw [←e1];refine aY (fun h4=>?_) (fun h4=>?_)
     ·ext
      exact ⟨if_pos (by rw [bo];exact h4),trivial,cU.now fun j w=>aF rfl⟩
     ·walk_at "kk";exact ⟨if_neg (by rw [bo,h4];exact cr),cU.now fun j w=>aF rfl⟩
    ·rw [aZ (p:=fun k=>hs.getD k 0==height) (g:=fun k=>PV.int k) (fun j _=>rfl), ←dI]
     walk_at "kk";exact ⟨rfl,fun j w=>aF rfl,rfl⟩
   obtain eR:((am 4).map (fun k:Nat=>PV.int k)).map (fun q=>PO.list (match q with| .int height=>pn (free.filter fun k=>hs.getD k 0==height.toNat)|_=>[]))=(bO free hs).map fun r=> .list (pn r):=by delta bO;rw [cw,cw];rfl
   rw [eR]
   try dsimp only
   have hrl:(bO free hs).length=4:=(bl ..).trans k9;obtain hrl2:((am 4).map (fun k:Nat=>PV.int k)).length=(bO free hs).length:=by rw [hrl] at ⊢;rfl
   rw [hrl2];have hIs:=kT.new (H:=H1++J) (J:=[]) (rows:=bO free hs);rw [be] at hIs;refine aE (hIs) fun a' hra' hro'=>?_;obtain ⟨H2,hH2⟩: ∃H2,H2=H1++J++ .list (cQ ((H1++J).length+1) (bO free hs).length)::(bO free hs).map fun r=> .list (pn r):=⟨_,rfl⟩;rw [←hH2] at hra' hro' ⊢;have hpre: ∃J2,H2=H1++J2:=⟨_,by rw [hH2,aa]⟩;obtain hgf2:H2[H.length]? =some (.list (pn free)):=by obtain ⟨J2,e⟩:=hpre;rw [e];exact old_get hgf
   obtain haB:a'+4≤H2.length:=by have:=hro' 3 ((bO free hs)[3]'(by assumption)) (ae (by assumption));have:=(af.mp this).1;assumption
   generalize bO free hs=rounds at*;ext;refine oA (xs:=pn free) hgf2 (by rw [bE];exact aC (by exact aq (by assumption) (ax _ _))) ?_;rw [bE];ext;refine eB ["one"] SD S.qf 6 (by kernel_rfl) (cT S.qf ?_);ext;refine ⟨_,cN (xs:=cQ a' rounds.length) S.qf hra',rfl,cQ a' rounds.length,Gw rounds a',?_,?_,?_,?_⟩
   ·rw [eK,hrl];decide
   ·intro k t;delta iS;rw [old_get hra']
   ·intro L' SB QB q acc hq
    refine Hv fun κ4 kk4 κ4' kj4=>?_;walk_at "v";refine aE (ap.mp hq) fun m hm qz2=>?_;subst qz2;have hm:=bj.mp hm;have hrow:rounds.getD m []=rounds[m]:=by rw [ao,ae hm];rfl
    obtain hrowH:=hro' m rounds[m] (ae hm);have e7:a'+m - a'=m:=by simp
    ext;refine ⟨by decide,?_⟩;ext;refine zH SB (l:=rounds[m]) (by exact old_get (old_get hrowH)) (by simp) ?_;ext;refine aY (fun h4=>?_) (fun h4=>?_)
    ·ext
     exact ⟨if_pos (by rw [e7,hrow];exact h4),by show a'+m<H2.length;exact hW 0x263508321a8880d08824c82 0x100421 [_,_,_,_] haB hrl hm,fun j w=>aF rfl,_,rfl⟩
    ·walk_at "kk";exact ⟨if_neg (by rw [e7,hrow,h4];exact cr),fun j w=>aF rfl,_,rfl⟩
   ext;refine ⟨aC (by show 2≤100000;decide),?_⟩
   try dsimp only
   obtain ⟨J2,hJ2⟩:=hpre;obtain e11:(decide (((free.length:Nat):Int)<4))=decide (free.length<4):=by rw [decide_eq_decide];lia
   rw [e11];obtain hdr:=Ab hro';generalize (cQ a' rounds.length).filterMap (Gw rounds a')=fl at*;have:=h3 (J2++[.list fl]++[.tuple [.bool (decide (free.length<4)), .ref H2.length]]) (H2++[PO.list fl]).length;rw [←aa, ←aa, ←hJ2] at this;exact this (.tuple (xs:=[.bool (decide (free.length<4)), .ref H2.length]) (by rw [bf (ay _)];simp) (.cons (.bool _) (.cons (.list (by rw [aa];exact cJ) (by rw [aa];exact hdr.app)) .nil)))
end
end
section
section
variable {ac ex m u:List Str}{f i j:Nat}
variable {C:Cx} {st:St} {K:PV→St→Prop} {n:Nat}
def bL (l:List Str) (x:Str):Nat→Nat→Nat
 |0,i=>i
 |f+1,i=>if l[i]? =some x then bL l x f (i+1) else i
theorem jM (l x f i):bL l x (f+1) i=(if l[i]? =some x then bL l x f (i+1) else i):=rfl
theorem qV (l:List Str) (x:Str): ∀f i,i≤bL l x f i:=by
 intro zi;induction zi with
 |zero=>intro i;exact ay _
 |succ f ih=>intro i;rw [jM];split;exact aq (jn _) (ih (i+1));exact ay _
theorem jV (l:List Str) (x:Str): ∀f i,i≤l.length→bL l x f i≤l.length:=by
 intro zi;induction zi with
 |zero=>intro i h;exact h
 |succ f ih=>
  intro i h;rw [jM];split
  ·rename_i h1
   have:=(af.mp h1).1;exact ih (i+1) this
  ·exact h
def sld (ex ac:List Str):Nat→Nat→Nat→List Str→List Str→List Str×List Str
 |0,i,j,m,u=>(m++ex.drop i,u++ac.drop j)
 |f+1,i,j,m,u=>match ex[i]?,ac[j]? with
  |some e,some a=>if fV e a=true then sld ex ac f (bL ex e ex.length (i+1)) j (m++[e]) u
    else if fV a e=true then sld ex ac f i (bL ac a ac.length (j+1)) m (u++[a])
    else sld ex ac f (bL ex e ex.length (i+1)) (bL ac a ac.length (j+1)) m u
  |_,_=>(m++ex.drop i,u++ac.drop j)
theorem Jt (ex ac f i j m u):sld ex ac (f+1) i j m u=(match ex[i]?,ac[j]? with
  |some e,some a=>if fV e a=true then sld ex ac f (bL ex e ex.length (i+1)) j (m++[e]) u
    else if fV a e=true then sld ex ac f i (bL ac a ac.length (j+1)) m (u++[a])
    else sld ex ac f (bL ex e ex.length (i+1)) (bL ac a ac.length (j+1)) m u
  |_,_=>(m++ex.drop i,u++ac.drop j)):=rfl
theorem iI (h:ex.length≤i∨ac.length≤j):sld ex ac f i j m u=(m++ex.drop i,u++ac.drop j):=by
 cases f with
 |zero=>rfl
 |succ f=>
  rw [Jt];rcases h with h|h
  ·rw [ft h]
  ·rw [ft h]
   cases ex[i]? <;>rfl
theorem mX {l:List Str} {x:Str} {i:Nat} (h:l[i]? ≠some x): ∀f,bL l x f i=i
 |0=>rfl
 |f+1=>by rw [jM];rw [if_neg h]
theorem tU {l:List Str} {x:Str} (h:l[i]? =some x):bL l x (f+1) i=bL l x f (i+1):=by conv=>lhs;rw [jM];rw [if_pos h]
theorem uJ {e a:Str} (he:ex[i]? =some e) (ha:ac[j]? =some a):sld ex ac (f+1) i j m u=
  (if fV e a=true then sld ex ac f (bL ex e ex.length (i+1)) j (m++[e]) u
   else if fV a e=true then sld ex ac f i (bL ac a ac.length (j+1)) m (u++[a])
   else sld ex ac f (bL ex e ex.length (i+1)) (bL ac a ac.length (j+1)) m u):=by
 conv=>lhs;rw [Jt]
 rw [he,ha]
inductive Rj (v:List (Option PV)) (h:List PO) (ii:Nat) (l:List Str) (x:Str) (i0 q:Nat) (s:St):Prop
 |mk (i2:Nat) (e:s=⟨v.set ii (some (.int i2)),h⟩) (h1:bL l x q i2=bL l x l.length i0) (h2:i2≤l.length) (h3:l.length≤q+i2):Rj v h ii l x i0 q s
theorem oX {kb:Bool} {KF:Fl→St→Prop} {X:St→Prop} (hs:C.Still) (hH:C.Head) (hc:C.A.handled=none∨kb=false) {lst idx val:Str} {il ii iv r i0:Nat} {l:List Str} {x:Str} {v:List (Option PV)} {h:List PO} {p1 p2 p3 p4 p5 p6 p7 p8 pos:Pos} {kc:Nat}
  (x1:C.vis.lookup lst=some il) (x2:C.vis.lookup idx=some ii) (x3:C.vis.lookup val=some iv) (k2:C.env.kindOf idx=some .local)
  (d1:(lst==("__debug__":Str))=false) (d2:(lst==("__classdict__":Str))=false) (d3:(idx==("__debug__":Str))=false) (d4:(idx==("__classdict__":Str))=false) (d5:(val==("__debug__":Str))=false) (d6:(val==("__classdict__":Str))=false)
  (n1:il≠ii) (n2:iv≠ii) (v1:v[il]? =some (some (.ref r))) (v2:v[ii]? =some (some (.int i0))) (v3:v[iv]? =some (some (.str x))) (hr:h[r]? =some (.list (aB l))) (hz:l.length≤1000) (hi:i0≤l.length)
  (hK:bL l x l.length i0<l.length→KF .next ⟨v.set ii (some (.int (bL l x l.length i0:Nat))),h⟩) (hX:bL l x l.length i0=l.length→X ⟨v.set ii (some (.int (l.length:Nat))),h⟩):
  X1 C (.type "IndexError") kb (.While (.Compare (.Subscript (.Name lst p1) (.Name idx p2) p3) [.Eq] [.Name val p4] p5) [.AugAssign (.Name idx p6) .Add (.Constant (.int 1) kc p7) p8] [] pos) ⟨v,h⟩ KF X:=by
 walk_at "T C,kb,KF,X hs hH hc lst,idx,val,il,ii,iv,r,i0,l,x,v,h,p1,p2,p3,p4 p5,p6,p7,p8,pos,kc x1 x2 x3 k2 d1 d2 d3 d4 d5 d6 n1 n2 v1 v2 v3 hr hz hi hK hX";have hil:=(af.mp v2).1;refine Co hH (Rj v h ii l x i0) l.length ⟨i0,?_,rfl,hi,by exact dw _ _⟩ ?_
 ·congr 1
  refine List.ext_getElem? fun j=>?_;by_cases hj:ii=j
  ·subst hj;rw [gu hil];exact v2
  ·rw [fi hj]
 walk_at "I q,z59b1 hr59a";obtain ⟨i2,rfl,hq1,hq2,hq3⟩:=hr59a;obtain w1:(v.set ii (some (.int i2)))[il]? =some (some (.ref r)):=by rw [fi (l6 n1)];exact v1
 have w2:(v.set ii (some (.int i2)))[ii]? =some (some (.int i2)):=gu hil;obtain w3:(v.set ii (some (.int i2)))[iv]? =some (some (.str x)):=by rw [fi (l6 n2)];exact v3
 refine Ln hs (xY hs (e_var x1 w1 (e_var x2 w2 (tP hc hr (Df (aq hq2 hz)) (fun p hp=>?_) (fun hle=>?_)) d3 d4) d1 d2)) (by rfl)
 ·obtain ⟨hil2,hpe⟩:=af.mp hp
  have hil2:i2<l.length:=by simpa [aB] using hil2
  obtain hpe:p= .str l[i2]:=by rw [←hpe];simp [aB]
  subst hpe;have hei2:l[i2]? =some l[i2]:=ae hil2;generalize l[i2]=e2 at*;refine e_var x3 w3 (c_eqs (pt_bool ?_)) d5 d6;refine aY (fun hee=>?_) (fun hee=>?_)
  ·obtain this:e2=x:=by simpa using hee
   subst this;cases q with
   |zero=>lia
   |succ q=>
   rw [tU hei2] at hq1;refine bA (iO hs (s_aug x2 k2 w2 (e_int (i_add ?_))));refine eC ⟨q,by exact ch _,i2+1,?_,hq1,by assumption,by exact aQ 0x9294140c419286a0a041 33 [_,_,_] hq3⟩
   try dsimp only
   rw [o0];rfl
  ·obtain this:e2≠x:=by simpa using hee
   rw [mX (by rw [hei2];simpa using this)] at hq1;rw [←hq1] at hK;exact hK hil2
 ·obtain hle:l.length≤i2:=by simpa [aB] using hle
  obtain this:i2=l.length:=by exact aW 0x14106420c822 0x2008021 [_,_] hq2 hle
  subst this;rw [mX (by rw [ft (ay _)];simp)] at hq1;exact hX hq1.symm
set_option maxHeartbeats 2000000 in
inductive Qe (h0:List PO) (i j:Nat) (ex ac:List Str) (res:List Str×List Str) (s:St):Prop
 |mk (i' j':Nat) (m u:List Str) (e a:Option PV) (q:s=⟨[some (.ref i),some (.ref j),some (.int (i':Nat)),some (.int (j':Nat)),some (.ref h0.length),some (.ref (h0.length+1)),e,a],h0++[.list (aB m), .list (aB u)]⟩) (h1:(m++ex.drop i',u++ac.drop j')=res) (h2:m.length+(ex.length - i')≤ex.length) (h3:u.length+(ac.length - j')≤ac.length):Qe h0 i j ex ac res s
inductive Pw (h0:List PO) (i j:Nat) (ex ac:List Str) (res:List Str×List Str) (f:Nat) (s:St):Prop
 |mk (i' j':Nat) (m u:List Str) (e a:Option PV) (q:s=⟨[some (.ref i),some (.ref j),some (.int (i':Nat)),some (.int (j':Nat)),some (.ref h0.length),some (.ref (h0.length+1)),e,a],h0++[.list (aB m), .list (aB u)]⟩) (h1:sld ex ac f i' j' m u=res) (h2:i'≤ex.length) (h3:j'≤ac.length) (h4:(ex.length - i')+(ac.length - j')≤f) (h5:m.length+(ex.length - i')≤ex.length) (h6:u.length+(ac.length - j')≤ac.length):Pw h0 i j ex ac res f s
theorem Ku {i j:Nat} {ex ac:List Str} (S:bS C (n+1)) (hi:st.h[i]? =some (.list (aB ex))) (hj:st.h[j]? =some (.list (aB ac))) (hz:ex.length≤1000) (hz2:ac.length≤1000)
  (h: ∀J R,dX (st.h++J) (.ref R) (.tuple [.list ((sld ex ac (ex.length+ac.length) 0 0 [] []).1.map .str), .list ((sld ex ac (ex.length+ac.length) 0 0 [] []).2.map .str)])→K (.ref R) ⟨st.v,st.h++J⟩):PC C (.ref 213) [.ref i, .ref j] st K:=by
 walk_at "T C,st,K,n,i,j,ex,ac S hi hj hz hz2 h";refine jO S ["expected","actual"] ["i","j","missing","unexpected","e","a"] S.kn.f_sorted_list_difference.2.2 rfl (fun _ _ _ _ _ _ _ _=>rF fun v u=>rfl) (by decide) (by decide) ?_;walk_at "I zz, SD";refine s_cons ?_;refine s_assignG ?_ (by rfl) (by rfl) (by rfl);ext;refine ⟨by decide,?_⟩;ext;refine ⟨by decide,?_⟩;ext
 letI V (iv jv:Nat) (e a:Option PV):List (Option PV):=[some (.ref i),some (.ref j),some (.int iv),some (.int jv),some (.ref st.h.length),some (.ref (st.h.length+1)),e,a]
 letI H (m u:List Str):List PO:=st.h++[.list (aB m), .list (aB u)]
 have Hi (m u:List Str):(H m u)[i]? =some (.list (aB ex)):=old_get hi;have Hj (m u:List Str):(H m u)[j]? =some (.list (aB ac)):=old_get hj;have Hm (m u:List Str):(H m u)[st.h.length]? =some (.list (aB m)):=by show (st.h++_)[_]? =_;exact cJ
 have Hu (m u:List Str):(H m u)[st.h.length+1]? =some (.list (aB u)):=by show (st.h++_)[_]? =_;rw [cK];rfl
 have pcat (m x:List Str):aB m++aB x=aB (m++x):=by simp [aB]
 have HSm (m u x:List Str):(H m u).set st.h.length (.list (aB m++aB x))=H (m++x) u:=by show (st.h++_).set _ _=st.h++_;rw [cS,pcat]
 have HSu (m u x:List Str):(H m u).set (st.h.length+1) (.list (aB u++aB x))=H m (u++x):=by show (st.h++_).set _ _=st.h++_;rw [tC,pcat];rfl
 generalize hres:sld ex ac (ex.length+ac.length) 0 0 [] []=res at h
 letI X:=Qe st.h i j ex ac res
 letI I:=Pw st.h i j ex ac res
 refine iG S.qf I (ex.length+ac.length) ?_ ?_
 ·exact ⟨0,0,[],[],none,none,by simp [V,H,aB],hres,by exact cz _,by exact cz _,by exact ay _,by simp,by simp⟩
 walk_at "I f,zq1 hI2";refine Pw.casesOn hI2 ?_;walk_at "I i',j',m,u,e0,a0 hz hs hi' hj' hf hm hu";subst hz;refine cY ?_;refine e_bool ?_;ext;refine Cw (Xn:="IndexError") (Tn:="IndexError") (X:=X) aL SD.hn eZ F.isExc_IndexError F.notTuple_IndexError F.self_IndexError ?_ ?_ ?_
 ·refine bA ?_
  refine mR aL ?_ (by rfl) (by rfl) (by rfl);refine xY aL ?_;ext;refine tP (.inl SD.hn) (Hi _ _) (by lia) (fun p hp=>?_) (fun hle=>?_)
  case _=>
   obtain ⟨hil,hpe⟩:=af.mp hp;have hil:i'<ex.length:=by simpa [aB] using hil
   obtain hpe:p= .str ex[i']:=by rw [←hpe];simp [aB]
   subst hpe;obtain hei:ex[i']? =some ex[i']:=ae hil;generalize ex[i']=e at*;refine bA ?_;refine mR aL ?_ (by rfl) (by rfl) (by rfl);refine xY aL ?_;ext;refine tP (.inl SD.hn) (Hj _ _) (by lia) (fun p hp=>?_) (fun hle=>?_)
   case _=>
    obtain ho142:=af.mp hp;walk_at "E ho142 : hjl hpa";have hjl:j'<ac.length:=by simpa [aB] using hjl
    obtain hpa:p= .str ac[j']:=by rw [←hpa];simp [aB]
    subst hpa;obtain haj:ac[j']? =some ac[j']:=ae hjl;generalize ac[j']=a at*;cases f with
    |zero=>(exfalso;exact aW 0x39310640429641ac22 0x8400084000800108021 [_,_,_,_] hil hf)
    |succ f=>
    rw [uJ hei haj] at hs;have hgi:=qV ex e ex.length (i'+1);have hli:=jV ex e ex.length (i'+1) hil;have hgj:=qV ac a ac.length (j'+1);have hlj:=jV ac a ac.length (j'+1) hjl;generalize hti:bL ex e ex.length (i'+1)=ti at*;generalize htj:bL ac a ac.length (j'+1)=tj at*;refine bA ?_;refine zL aL ?_;ext;refine aY (fun hea=>?_) (fun hea=>?_)
    case _=>
     rw [if_pos hea] at hs;refine bA (iO aL ?_);ext;walk_at "k";ext;refine ⟨⟨_,Hm _ _,rfl⟩,?_⟩;ext;refine eP (Hm _ _) (by simp [aB];exact aC (by exact aW 0x12186a04864007d091484a58c41 0x802108421 [_,_,_] hz hm)) ?_;have e1:=HSm m u [e]
     try dsimp only
     rw [show aB m++[PV.str e]=aB m++aB [e] from rfl,e1];refine bA (iO aL ?_);ext;refine bA ?_;refine oX (il:=0) (ii:=2) (iv:=6) (l:=ex) (x:=e) (i0:=i'+1) aL eZ (.inl SD.hn) rfl rfl rfl rfl rfl rfl rfl rfl rfl rfl (by decide) (by decide) rfl rfl rfl (Hi _ _) hz hil (fun hlt=>?_) (fun heq=>?_)
     case _=>
      rw [hti];exact eC (eC (s_nil (.inl ⟨f,by exact ch _,ti,j',m++[e],u,_,_,rfl,hs,by assumption,by assumption,by exact Cf 0x122a9641ac41928282a9641acc1a08f21282834c27 0x40100000000200800000401000010000000020000000000000400004000840000400000000802000001004000000000000004000040008400000200040000401000000002000000000000040000400084000040000000080000800100001 [_,_,_,_,_,_,_] hf hti hgi hlt,by simp;exact Cf 0x1212963128280c84a59041a0cb21a82824c45 0x2000420080000802000020004200040008001 [_,_,_,_,_] hm hti hgi hlt,by assumption⟩)))
     case _=>
      rw [hti] at heq;rw [iI (.inl (by simp_all))] at hs;exact ⟨ti,j',m++[e],u,_,_,by rw [heq];rfl,hs,by simp;exact hW 0x484a58c4a0a032129641066225043 0x8020000010040000000000210002108001 [_,_,_,_] hm hil heq,by assumption⟩
    case _=>
     rw [if_neg (by rw [hea];exact cr)] at hs;refine bA ?_;refine zL aL ?_;ext;refine aY (fun hae=>?_) (fun hae=>?_)
     case _=>
      rw [if_pos hae] at hs;refine bA (iO aL ?_);ext;walk_at "k";ext;refine ⟨⟨_,Hu _ _,rfl⟩,?_⟩;ext;refine eP (Hu _ _) (by simp [aB];exact aC (by exact aW 0x12186a04864007d091484a58c41 0x802108421 [_,_,_] hz2 hu)) ?_;have e1:=HSu m u [a]
      try dsimp only
      rw [show aB u++[PV.str a]=aB u++aB [a] from rfl,e1];refine bA (iO aL ?_);ext;refine bA ?_;refine oX (il:=1) (ii:=3) (iv:=7) (l:=ac) (x:=a) (i0:=j'+1) aL eZ (.inl SD.hn) rfl rfl rfl rfl rfl rfl rfl rfl rfl rfl (by decide) (by decide) rfl rfl rfl (Hj _ _) hz2 hjl (fun hlt=>?_) (fun heq=>?_)
      case _=>
       rw [htj];exact eC (eC (eC (s_nil (.inl ⟨f,by exact ch _,i',tj,m,u++[a],_,_,rfl,hs,by assumption,by assumption,by exact Cf 0x122a9641ac41928282a9661ac41a10f22282834c67 0x40100001000200800000001000200000000400000000000000400080010000108000000010002000000004000000000000004200000000400000010002008001000010002000000000000042000000004000000100020080000800100001 [_,_,_,_,_,_,_] hf htj hgj hlt,by assumption,by simp;exact Cf 0x1212963128280c84a59041a0cb21a82824c45 0x2000420080000802000020004200040008001 [_,_,_,_,_] hu htj hgj hlt⟩))))
      case _=>
       rw [htj] at heq;rw [iI (.inr (by simp_all))] at hs;exact ⟨i',tj,m,u++[a],_,_,by rw [heq];rfl,hs,by assumption,by simp;exact hW 0x484a58c4a0a032129641066225043 0x8020000010040000000000210002108001 [_,_,_,_] hu hjl heq⟩
     case _=>
      rw [if_neg (by rw [hae];exact cr)] at hs;have hea2:e=a:=by
       rcases eY hea with h|h
       ·exact h
       ·rw [h] at hae;cases hae
      refine bA (iO aL ?_);ext;refine bA ?_;refine Lo SD.hn eZ ?_;refine bA ?_;refine oX (il:=0) (ii:=2) (iv:=6) (l:=ex) (x:=e) (i0:=i'+1) aL eZ (.inl SD.hn) rfl rfl rfl rfl rfl rfl rfl rfl rfl rfl (by decide) (by decide) rfl rfl rfl (Hi _ _) hz hil (fun hlt=>?_) (fun heq=>?_)
      case _=>
       rw [hti];refine eC ⟨rfl,?_⟩;refine bA (iO aL ?_);ext;refine bA ?_;refine oX (il:=1) (ii:=3) (iv:=7) (l:=ac) (x:=a) (i0:=j'+1) aL eZ (.inl SD.hn) rfl rfl rfl rfl rfl rfl rfl rfl rfl rfl (by decide) (by decide) rfl rfl rfl (Hj _ _) hz2 hjl (fun hlt=>?_) (fun heq=>?_)
       case _=>
        rw [htj];exact eC ⟨rfl,eC (eC (eC (s_nil (.inl ⟨f,by exact ch _,ti,tj,m,u,_,_,rfl,hs,by assumption,by assumption,by exact hW 0x122a9641ac41928282a9671acc19094141a4450507 0x1004000802008001004000800100400000000000100020080010800100400080010040000000000010040008020000210000100400080200000000001080200800100421000010002108001 [_,_,_,_,_,_,_] hf hgi hgj,by exact aW 0x9094b18832129641064350504 0x40008401080210002008401 [_,_,_,_] hm hgi,by exact aW 0x9094b18832129641064350504 0x40008401080210002008401 [_,_,_,_] hu hgj⟩))))⟩
       case _=>
        rw [htj] at heq;rw [iI (.inr (by simp_all))] at hs;exact ⟨ti,tj,m,u,_,_,by rw [heq];rfl,hs,by exact aW 0x9094b18832129641064350504 0x40008401080210002008401 [_,_,_,_] hm hgi,by exact aW 0x12129631064252c820d043 0x4000040108001084000042108001 [_,_,_,_] hu heq⟩
      case _=>
       rw [hti] at heq;rw [iI (.inl (by simp_all))] at hs;walk_at "I v,";refine bA (iO (uX aL) ?_);ext;refine bA ?_;refine oX (il:=1) (ii:=3) (iv:=7) (l:=ac) (x:=a) (i0:=j'+1) (uX aL) (Hb eZ) (.inr rfl) rfl rfl rfl rfl rfl rfl rfl rfl rfl rfl (by decide) (by decide) rfl rfl rfl (Hj _ _) hz2 hjl (fun hlt=>?_) (fun heq2=>?_)
       case _=>
        rw [htj];exact eC ⟨rfl,ti,tj,m,u,_,_,by rw [heq];rfl,hs,by exact aW 0x12129631064252c820d043 0x4000040108001084000042108001 [_,_,_,_] hm heq,by exact aW 0x9094b18832129641064350504 0x40008401080210002008401 [_,_,_,_] hu hgj⟩
       case _=>
        rw [htj] at heq2;exact ⟨ti,tj,m,u,_,_,by rw [heq,heq2];rfl,hs,by exact aW 0x12129631064252c820d043 0x4000040108001084000042108001 [_,_,_,_] hm heq,by exact aW 0x12129631064252c820d043 0x4000040108001084000042108001 [_,_,_,_] hu heq2⟩
   case _=>
    have hle:ac.length≤j':=by simpa [aB] using hle
    rw [iI (.inr hle)] at hs;exact ⟨i',j',m,u,_,a0,rfl,hs,hm,hu⟩
  case _=>
   obtain hle:ex.length≤i':=by simpa [aB] using hle
   rw [iI (.inl hle)] at hs;exact ⟨i',j',m,u,_,a0,rfl,hs,hm,hu⟩
 ·walk_at "I v st1"
  exact Fj (SD.kn.blt _ (by decide)) (by decide+kernel) ⟨rfl,rfl⟩ (by decide) (by rfl) (by decide)
 ·walk_at "I v,zq3 hI4"
  refine Qe.casesOn hI4 ?_;walk_at "I i',j',m,u,e1,a1 hz hr hm2 hu2";subst hz;have HS1 (m u x:List Str) (J:List PO):(H m u++J).set st.h.length (.list (aB m++aB x))=H (m++x) u++J:=by show (st.h++_++J).set _ _=st.h++_++J;rw [aa,aa,cq,cS,pcat];rfl
  have HS2 (m u x:List Str) (J:List PO):(H m u++J).set (st.h.length+1) (.list (aB u++aB x))=H m (u++x)++J:=by show (st.h++_++J).set _ _=st.h++_++J;rw [aa,aa,tC,pcat];rfl
  have hdl:(ex.drop i').length=ex.length - i':=by simp
  have hdl2:(ac.drop j').length=ac.length - j':=by simp
  ext;walk_at "k";ext;refine ⟨⟨_,Hm _ _,rfl⟩,?_⟩;ext;refine fZ (i:=i) (xs:=aB ex) (lo:=some (i':Int)) (hi:=none) rfl rfl (Hi _ _) (by simp [aB];exact aC (by exact aq (by assumption) (ax _ _))) ?_;obtain e1:bH (aB ex) (some (i':Int)) none=aB (ex.drop i'):=by rw [gR];simp [aB]
  rw [e1];ext;refine uI (xs:=aB m) (ys:=aB (ex.drop i')) (old_get (Hm _ _)) (by simp) (by simp [aB];exact aC (by exact aW 0x12186a04a9631064007d091484a58c41 0x802008020080010040100401 [_,_,_] hz hm2)) ?_
  try dsimp only
  rw [HS1];ext;walk_at "k";ext;refine ⟨⟨_,old_get (Hu _ _),rfl⟩,?_⟩;ext;refine fZ (i:=j) (xs:=aB ac) (lo:=some (j':Int)) (hi:=none) rfl rfl (old_get (Hj _ _)) (by simp [aB];exact aC (by exact aq (by assumption) (ax _ _))) ?_;obtain e2:bH (aB ac) (some (j':Int)) none=aB (ac.drop j'):=by rw [gR];simp [aB]
  rw [e2];ext;refine uI (xs:=aB u) (ys:=aB (ac.drop j')) (old_get (old_get (Hu _ _))) (by simp) (by simp [aB];exact aC (by exact aW 0x12186a04a9631064007d091484a58c41 0x802008020080010040100401 [_,_,_] hz2 hu2)) ?_
  try dsimp only
  rw [aa (H _ _),HS2];ext;refine ⟨aC (by show 2≤100000;decide),?_⟩;obtain hr1:m++ex.drop i'=res.1:=congrArg Prod.fst hr;obtain hr2:u++ac.drop j'=res.2:=congrArg nj hr;rw [hr1,hr2]
  try dsimp only
  have deepS (l:List Str) (Hh:List PO):DeepAll Hh (aB l) (l.map .str):=by
   induction l with
   |nil=>exact .nil
   |cons a r ih=>exact .cons (.str a) ih
  generalize hJ:([PO.list (aB (ex.drop i'))]++[PO.list (aB (ac.drop j'))])=J2;have:=h ([.list (aB res.1), .list (aB res.2)]++J2++[.tuple [.ref st.h.length, .ref (st.h.length+1)]]) (H res.1 res.2++J2).length;obtain e3:st.h++([.list (aB res.1), .list (aB res.2)]++J2++[.tuple [.ref st.h.length, .ref (st.h.length+1)]])=H res.1 res.2++J2++[.tuple [.ref st.h.length, .ref (st.h.length+1)]]:=by simp [H]
  rw [e3] at this;refine this (.tuple (xs:=[.ref st.h.length, .ref (st.h.length+1)]) (by rw [bf (ay _)];simp) (.cons (.list (xs:=aB res.1) ?_ (deepS _ _)) (.cons (.list (xs:=aB res.2) ?_ (deepS _ _)) .nil)))
  ·exact old_get (old_get (Hm _ _))
  ·exact old_get (old_get (Hu _ _))
end
end
section
section
variable {H:List PO}{d ep n2 x:Nat}{k:Int}{kvs:List (Int×PV)}{o:PO}{rest us:List PV}
variable {C:Cx} {st:St} {K:PV→St→Prop} {n:Nat}
theorem s0 {h J:List PO}:(h++J).set h.length o=h++J.set 0 o:=by rw [lj _ _ (ay _)];simp
theorem gs (h:d<H.length):(H.set d o)[d]? =some o:=gu h
theorem gn {i:Nat} {p:PO} (n:d≠i) (h:H[i]? =some p):(H.set d o)[i]? =some p:=by rw [fi n];exact h
theorem kM {P:St→Prop} {v:List (Option PV)} {H':List PO} (e:H=H') (h:P ⟨v,H'⟩):P ⟨v,H⟩:=e▸h
abbrev fU:List Str:=["_node2info","_ready_nodes","_npassedout","_nfinished"]
theorem Pd (S:KnC C.K) {K':List (Str×PV)→St→Prop} {name qual:Str} {kV doc pm cdv ct:ak} {an:Option Addr} {z:PV} (h:K' [("self",z),("graph", .none)] st):
  PB C (fnOf name qual (aP (aK 29 0)) (aX (aK 29 0)) (aU (aK 29 0)) (.ref 131) kV doc pm an cdv ct) [z] st K':=by
 walk_at "T C,st S K',name,qual,kV,doc,pm,cdv,ct,an,z h";obtain ⟨oc,dd,m,sl,_,_,hK⟩:=S.d131;refine sS (ns:=["self"]) (y:="graph") (q:= .none) (w:= .none) hK rfl (fun σ=>rfl) (fun vs hv=>?_) h;obtain ⟨v,rfl⟩:=Ad hv;exact ⟨(kS _ _).1,(kS _ _).2,rfl⟩
theorem Bq (S:bS C (n+4)) (Y:KnC C.K) (h:K (.ref (st.h.length+1)) {st with h:=st.h++[.raw (sR fU) [.ref (st.h.length+2), .none, .int 0, .int 0], .raw (iR 202) [.ref st.h.length],dP C.w [] 0]}):PC C (.ref 202) [] st K:=by
 walk_at "T C,st,K,n S Y h";refine Fq Y.s Y.ini_s.1 Y.ini_s.2.1 ?_;walk_at "I vs,";have S':bS (C.un 202 vs) (n+2):=S.und;obtain hnd:((["self","graph"]:List Str)++(["node","predecessors"]:List Str)).Nodup:=by decide
 refine rZ ["node","predecessors"] Y.ini_s.2.2 S'.room (fun name qual kV doc pm an cdv ct=>Pd (C:=C.un 202 vs) Y ⟨hnd,?_,fun L=>?_⟩)
 ·intro x hx
  obtain this:x="self"∨x="graph":=by simpa using hx
  rcases this with rfl|rfl<;>exact .inl (by decide+kernel)
 have SD:bS ((C.un 202 vs).fn (fnOf name qual (aP (aK 29 0)) (aX (aK 29 0)) (aU (aK 29 0)) (.ref 131) kV doc pm an cdv ct) L 138 (iM ((["self","graph"]:List Str)++(["node","predecessors"]:List Str))) fun _ _=>False) n:=(S'.less (jn _)).fn;refine s_cons ?_;refine s_assignG ?_ (by rfl) (by rfl) (by rfl);ext;generalize hH:st.h++[PO.raw (sR []) []]++[PO.raw (iR 202) [PV.ref st.h.length]]=H;obtain hl:H.length=st.h.length+2:=by rw [←hH];simp
 have hi:H[st.h.length+1]? =some (.raw (iR 202) [.ref st.h.length]):=by rw [←hH];simp
 obtain hd:H[st.h.length]? =some (.raw (sR []) []):=by rw [←hH];simp
 have hd1:st.h.length<(H++[dP C.w [] 0]).length:=by rw [aj,hl];simp;exact jP 0x135050a12021 1 [_]
 refine yF (i:=st.h.length+1) (d:=st.h.length) Y (by decide) (old_get hi) (old_get hd) (by decide) rfl ?_;refine pas_nil ?_;refine s_cons ?_;ext;refine yF (i:=st.h.length+1) (d:=st.h.length) Y (by decide) (gn (by exact (ce _).symm) (old_get hi)) (gs hd1) (by decide) rfl ?_;refine pas_nil ?_;refine s_cons ?_;ext;refine yF (i:=st.h.length+1) (d:=st.h.length) Y (by decide) (gn (by exact (ce _).symm) (gn (by exact (ce _).symm) (old_get hi))) (gs (by rw [f0];exact hd1)) (by decide) rfl ?_;refine pas_nil ?_;refine s_cons ?_;ext;refine yF (i:=st.h.length+1) (d:=st.h.length) Y (by decide) (gn (by exact (ce _).symm) (gn (by exact (ce _).symm) (gn (by exact (ce _).symm) (old_get hi)))) (gs (by rw [f0,f0];exact hd1)) (by decide) rfl ?_;refine pas_nil ?_;refine s_cons ?_;ext;refine rY rfl ?_;ext;refine ite_ff ?_;ext;refine ⟨rfl,?_⟩;show K _ ⟨_,_⟩;refine kM ?_ h;subst hH;rw [o0,o0,o0,aa,aa,s0];simp;rfl
theorem Gu {p:PV} (S:bS C (n+4)) (Y:KnC C.K) (h:K (.ref (st.h.length+1)) {st with h:=st.h++[.raw (sR []) [], .raw (iR 105) [.ref st.h.length,p, .int 0, .ref (st.h.length+2)], .list []]}):PC C (.ref 105) [p] st K:=by
 walk_at "T C,st,K,n,p S Y h";refine Fq Y.n Y.ini_n.1 Y.ini_n.2.1 fun vs=>?_;obtain S':bS (C.un 105 vs) (n+2):=S.und;refine Jr S' ["self","node"] [] Y.ini_n.2.2 rfl (fun _ _ _ _ _ _ _ _=>rF fun v u=>rfl) (by decide) (by decide) fun zz SD=>?_;generalize hH:st.h++[PO.raw (sR []) []]++[PO.raw (iR 105) [PV.ref st.h.length]]=H;have hl:H.length=st.h.length+2:=by rw [←hH];simp
 obtain hi:H[st.h.length+1]? =some (.raw (iR 105) [.ref st.h.length]):=by rw [←hH];simp
 have hd:H[st.h.length]? =some (.raw (sR []) []):=by rw [←hH];simp
 have hi1:st.h.length+1<H.length:=by simp_all
 refine s_cons ?_;refine s_assignG ?_ (by rfl) (by rfl) (by rfl);ext;refine Fg (i:=st.h.length+1) (d:=st.h.length) (us:=[]) Y Y.s_node rfl (by decide) hi hd ?_;refine pas_nil ?_;refine s_cons ?_;ext;refine Fg (i:=st.h.length+1) (d:=st.h.length) Y Y.s_npred rfl (by decide) (gs hi1) (gn (by exact ce _) hd) ?_;refine pas_nil ?_;refine s_cons ?_;ext;refine ⟨by decide,?_⟩;ext;refine Fg (i:=st.h.length+1) (d:=st.h.length) Y Y.s_succ rfl (by decide) (old_get (gs (by rw [f0];exact hi1))) (old_get (gn (by exact ce _) (gn (by exact ce _) hd))) ?_;refine pas_nil ?_;ext;refine ⟨rfl,?_⟩;show K _ ⟨_,_⟩;refine kM ?_ h;subst hH;simp
theorem mW {ni:Nat} (S:bS C (n+1)) (Y:KnC C.K) (hx:st.h[x]? =some (.raw (iR 202) (.ref d::us))) (hd:st.h[d]? =some (.raw (sR fU) (.ref n2::rest)))
  (hn:st.h[n2]? =some (dP C.w kvs ep)) (hk:kvs.lookup k=some (.ref ni)) (h:K (.ref ni) st):PC C (.ref 145) [.ref x, .int k] st K:=by
 refine jO S ["self","node"] ["result"] Y.m_info.2.2.2 rfl (fun _ _ _ _ _ _ _ _=>rF fun v u=>rfl) (by decide) (by decide) fun zz SD=>?_;refine s_cons ?_;refine s_if ?_;ext;walk_at "d";ext;refine gK Y (by decide) hx hd rfl (fun u e=>by cases e) ?_;refine ⟨iJ hn,?_⟩;ext;refine wW hn ?_;rw [hk];ext;refine qO rfl ?_;ext;refine ite_ff ?_;ext;exact h
theorem vF {N:Nat} (S:bS C (n+6)) (Y:KnC C.K) (hx:st.h[x]? =some (.raw (iR 202) (.ref d::us))) (hd:st.h[d]? =some (.raw (sR fU) (.ref n2::rest)))
  (hn:st.h[n2]? =some (dP C.w kvs ep)) (hz:kvs.length≤big) (hk:kvs.lookup k=none)
  (hN:st.h.length=N) (h: ∀ep',K (.ref (N+1)) {st with h:=(st.h++([.raw (sR []) [], .raw (iR 105) [.ref N, .int k, .int 0, .ref (N+2)], .list []]:List PO)).set n2 (dP C.w (pY kvs k (.ref (N+1))) ep')}):PC C (.ref 145) [.ref x, .int k] st K:=by
 subst hN;refine jO S ["self","node"] ["result"] Y.m_info.2.2.2 rfl (fun _ _ _ _ _ _ _ _=>rF fun v u=>rfl) (by decide) (by decide) fun zz SD=>?_;refine s_cons ?_;refine s_if ?_;ext;walk_at "d";ext;refine gK Y (by decide) hx hd rfl (fun u e=>by cases e) ?_;refine ⟨iJ hn,?_⟩;ext;refine wW hn ?_;rw [hk];ext;refine qO rfl ?_;ext;refine ite_tt ?_;refine s_cons ?_;refine s_assignG ?_ (by rfl) (by rfl) (by rfl);ext;refine Gu (n:=n+1) SD Y ?_;ext;refine gK Y (by decide) (old_get hx) (old_get hd) rfl (fun u e=>by cases e) ?_;ext;refine zK (old_get hn) hz fun ep'=>?_;ext;refine h ep'
end
end
section
variable {j k m q:Nat}{α:Type}
def upd {α:Type} (f:Nat→α) (k:Nat) (v:α):Nat→α:=fun j=>if j=k then v else f j
theorem bW {f:Nat→α} {v:α}:upd f k v k=v:=if_pos rfl
theorem bQ {f:Nat→α} {v:α} (h:j≠k):upd f k v j=f j:=if_neg h
def dT (b m:Nat):List (Int×PV):=(am m).map fun k:Nat=>((k:Int),PV.ref (b+4*k+5))
def cell (w:aw) (b:Nat) (rd:PV) (np nf:Int) (ep m:Nat) (c:Nat→Int) (s:Nat→List Nat) (j:Nat):PO:=
 if j=0 then .raw (sR fU) [.ref (b+2),rd, .int np, .int nf]
 else if j=1 then .raw (iR 202) [.ref b]
 else if j=2 then dP w (dT b m) ep
 else if (j - 3)%4=0 then .tuple []
 else if (j - 3)%4=1 then .raw (sR []) []
 else if (j - 3)%4=2 then .raw (iR 105) [.ref (b+j - 1), .int ((j - 3)/ 4:Nat), .int (c ((j - 3)/ 4)), .ref (b+j+1)]
 else .list (pn (s ((j - 3)/ 4)))
structure Sr (w:aw) (H0 H:List PO) (rd:PV) (np nf:Int) (m:Nat) (c:Nat→Int) (s:Nat→List Nat):Prop where
 pre: ∃J,H=H0++J
 at_: ∃ep, ∀j,j<3+4*m→H[H0.length+j]? =some (cell w H0.length rd np nf ep m c s j)
theorem dm (hq:q<4):(3+4*m+q - 3)/ 4=m∧(3+4*m+q - 3)%4=q:=by rw [qx,my,qb (by decide),Nat.mul_add_mod,Nat.div_eq_of_lt hq,Nat.mod_eq_of_lt hq];exact ⟨rfl,rfl⟩
theorem Pp (h: ¬j<3) (k:j<3+4*m):(j - 3)/ 4<m:=Nat.div_lt_of_lt_mul (Nat.sub_lt_left_of_lt_add (fe.mp h) k)
theorem m3 {r:Nat} (h0: ¬r=0) (h1: ¬r=1) (h2: ¬r=2):3≤r:=kq (kq (Nat.pos_of_ne_zero h0) (l6 h1)) (l6 h2)
theorem dq (h3:3≤j) (h:(j - 3)%4=q) (e:(j - 3)/ 4=k):j=4*k+q+3:=by have:=Nat.div_add_mod (j - 3) 4;rw [h,e] at this;exact (Nat.sub_eq_iff_eq_add h3).mp this.symm
theorem Rw (q:(j - 3)%4=2):3≤j:=po fun h=>by rw [se (de h)] at q;cases q
theorem Rd:(4*k+5 - 3)/ 4=k:=by show (4*k+2)/ 4=k;rw [qb (by decide)];rfl
theorem Rl:(4*k+6 - 3)/ 4=k:=by show (4*k+3)/ 4=k;rw [qb (by decide)];rfl
theorem Qn {n:Nat}:(n+4*k+5 - n - 5)/ 4=k:=by rw [qx,my];exact Nat.mul_div_cancel_left k (by decide)
section
variable {b i k:Nat}
variable {w:aw} {H0 H:List PO} {rd:PV} {np nf:Int} {m:Nat} {c:Nat→Int} {s:Nat→List Nat}
theorem Ly {b ep j:Nat} {s s':Nat→List Nat} (h:j<3∨(j - 3)%4≠3):cell w b rd np nf ep m c s j=cell w b rd np nf ep m c s' j:=by
 walk_at "T w,rd,np,nf,m,c,b,ep,j,s,s' h";delta cell;by_cases h0:j=0
 ·rw [if_pos h0,if_pos h0]
 rw [if_neg h0,if_neg h0];by_cases h1:j=1
 ·rw [if_pos h1,if_pos h1]
 rw [if_neg h1,if_neg h1];by_cases h2:j=2
 ·rw [if_pos h2,if_pos h2]
 rw [if_neg h2,if_neg h2];by_cases h3:(j - 3)%4=0
 ·rw [if_pos h3,if_pos h3]
 rw [if_neg h3,if_neg h3];by_cases h4:(j - 3)%4=1
 ·rw [if_pos h4,if_pos h4]
 rw [if_neg h4,if_neg h4];by_cases h5:(j - 3)%4=2
 ·rw [if_pos h5,if_pos h5]
 exact absurd h fun h=>h.elim (fe.mpr (m3 h0 h1 h2)) fun h=>h (ng (ik (Nat.mod_lt _ (by decide))) (m3 h3 h4 h5))
theorem Sr.d (x:Sr w H0 H rd np nf m c s):H[H0.length]? =some (.raw (sR fU) [.ref (H0.length+2),rd, .int np, .int nf]):=by obtain ⟨ep,h⟩:=x.at_;exact h 0 (by exact jP 0x13512011a008 1 [_])
theorem Sr.x (x:Sr w H0 H rd np nf m c s):H[H0.length+1]? =some (.raw (iR 202) [.ref H0.length]):=by obtain ⟨ep,h⟩:=x.at_;exact h 1 (by exact jP 0x13512011a028 1 [_])
theorem Sr.n2 (x:Sr w H0 H rd np nf m c s): ∃ep,H[H0.length+2]? =some (dP w (dT H0.length m) ep):=by obtain ⟨ep,h⟩:=x.at_;exact ⟨ep,h 2 (by exact dw _ _)⟩
theorem Sr.dk (x:Sr w H0 H rd np nf m c s) (hk:k<m):H[H0.length+4*k+4]? =some (.raw (sR []) []):=by obtain ⟨ep,h⟩:=x.at_;have:=h (4*k+4) (by exact aQ 0x9a89010d0a220900cc41 129 [_,_] hk);unfold cell at this;rw [if_neg (lx _),if_neg (by simp),if_neg (by simp),if_neg (by simp),if_pos (by simp)] at this;exact this
theorem Sr.ni (x:Sr w H0 H rd np nf m c s) (hk:k<m):H[H0.length+4*k+5]? =some (.raw (iR 105) [.ref (H0.length+4*k+4), .int k, .int (c k), .ref (H0.length+4*k+6)]):=by obtain ⟨ep,h⟩:=x.at_;have:=h (4*k+5) (by exact aQ 0x9a89010d0a2a0900cc41 129 [_,_] hk);unfold cell at this;obtain e:(4*k+5 - 3)/ 4=k:=Rd;rw [if_neg (lx _),if_neg (by simp),if_neg (by simp),if_neg (by simp),if_neg (by simp),if_pos (by simp),e] at this;exact this
theorem Sr.sl (x:Sr w H0 H rd np nf m c s) (hk:k<m):H[H0.length+4*k+6]? =some (.list (pn (s k))):=by obtain ⟨ep,h⟩:=x.at_;have:=h (4*k+6) (by exact aQ 0x9a89010d0a320900cc41 129 [_,_] hk);unfold cell at this;obtain e:(4*k+6 - 3)/ 4=k:=Rl;rw [if_neg (lx _),if_neg (by simp),if_neg (by simp),if_neg (by simp),if_neg (by simp),if_neg (by simp),e] at this;exact this
theorem Sr.len (x:Sr w H0 H rd np nf m c s):H0.length+3+4*m≤H.length:=by obtain ⟨ep,h⟩:=x.at_;have:=(af.mp (h (2+4*m) (by simp))).1;exact aQ 0x90d4480943406635289010901 33 [_,_,_] this
theorem dF {H0 H:List PO} {o:PO} (h: ∃J,H=H0++J) (hi:H0.length≤i): ∃J,H.set i o=H0++J:=by obtain ⟨J,rfl⟩:=h;exact ⟨_,lj _ _ hi⟩
theorem lR {H0 H J:List PO} (h: ∃J,H=H0++J): ∃J',H++J=H0++J':=by obtain ⟨J',rfl⟩:=h;exact ⟨J'++J,by rw [aa]⟩
theorem Sr.app (x:Sr w H0 H rd np nf m c s) (J:List PO):Sr w H0 (H++J) rd np nf m c s:=by refine ⟨lR x.pre,?_⟩;obtain ⟨ep,h⟩:=x.at_;exact ⟨ep,fun j hj=>old_get (h j hj)⟩
theorem Sr.out (x:Sr w H0 H rd np nf m c s) (hi:H0.length+3+4*m≤i) (o:PO):Sr w H0 (H.set i o) rd np nf m c s:=by refine ⟨dF x.pre (by exact aQ 0x12106425120350d01 33 [_,_,_] hi),?_⟩;obtain ⟨ep,h⟩:=x.at_;exact ⟨ep,fun j hj=>gn (by exact aW 0xdd143106415120450d029a89020d03 33793 [_,_,_,_] hi hj) (h j hj)⟩
theorem Sr.setD (x:Sr w H0 H rd np nf m c s) (rd':PV) (np' nf':Int):Sr w H0 (H.set H0.length (.raw (sR fU) [.ref (H0.length+2),rd', .int np', .int nf'])) rd' np' nf' m c s:=by
 obtain hl:=x.len;refine ⟨dF x.pre (by exact ay _),?_⟩;obtain ⟨ep,h⟩:=x.at_;refine ⟨ep,fun j hj=>?_⟩;by_cases e:j=0
 ·subst e;exact gs (by exact aQ 0x13106425120350d01 33 [_,_,_] hl)
 ·rw [gn (by simp_all) (h j hj)]
  delta cell;rw [if_neg e,if_neg e]
theorem Sr.setC (x:Sr w H0 H rd np nf m c s) (hk:k<m) (v:Int):Sr w H0 (H.set (H0.length+4*k+5) (.raw (iR 105) [.ref (H0.length+4*k+4), .int k, .int v, .ref (H0.length+4*k+6)])) rd np nf m (upd c k v) s:=by
 obtain hl:=x.len;refine ⟨dF x.pre (by exact jP 0x24a2a14480821 1 [_,_]),?_⟩;obtain ⟨ep,h⟩:=x.at_;refine ⟨ep,fun j hj=>?_⟩;by_cases e:j=4*k+5
 ·subst e
  rw [show H0.length+(4*k+5)=H0.length+4*k+5 by rfl,gs (by exact aW 0x4c6a2a1448083320a435120450d01 4129 [_,_,_,_] hk hl)];delta cell;have e:(4*k+5 - 3)/ 4=k:=Rd;rw [if_neg (lx _),if_neg (by simp),if_neg (by simp),if_neg (by simp),if_neg (by simp),if_pos (by simp),e,bW];rfl
 ·rw [gn (by grind_order) (h j hj)]
  delta cell;by_cases e2:(j - 3)%4=2∧3≤j
  ·rw [bQ fun q=>e (dq e2.2 e2.1 q)]
  ·congr 6
   have g: ¬(j - 3)%4=2:=fun q=>e2 ⟨q,Rw q⟩;rw [if_neg g,if_neg g]
theorem Sr.setS (x:Sr w H0 H rd np nf m c s) (hk:k<m) (l:List Nat):Sr w H0 (H.set (H0.length+4*k+6) (.list (pn l))) rd np nf m c (upd s k l):=by
 obtain hl:=x.len;refine ⟨dF x.pre (by exact jP 0x24a3214480821 1 [_,_]),?_⟩;obtain ⟨ep,h⟩:=x.at_;refine ⟨ep,fun j hj=>?_⟩;by_cases e:j=4*k+6
 ·subst e
  rw [show H0.length+(4*k+6)=H0.length+4*k+6 by rfl,gs (by exact aW 0x4c6a321448083320a435120450d01 4129 [_,_,_,_] hk hl)];delta cell;have e:(4*k+6 - 3)/ 4=k:=Rl;rw [if_neg (lx _),if_neg (by simp),if_neg (by simp),if_neg (by simp),if_neg (by simp),if_neg (by simp),e,bW]
 ·rw [gn (by grind_order) (h j hj)]
  delta cell;by_cases e2:j<3∨(j - 3)%4≠3
  ·exact congrArg some (Ly e2)
  ·rw [bQ fun q=>e (dq (fe.mp fun h=>e2 (.inl h)) (oh.mp fun h=>e2 (.inr h)) q)]
theorem gY {b m k:Nat} (hk:k<m):(dT b m).lookup (k:Int)=some (.ref (b+4*k+5)):=by
 walk_at "T b,m,k hk";induction m with
 |zero=>exact absurd (by assumption) (ko _)
 |succ m ih=>
  delta dT at*;rw [i8,bv,ou];by_cases e:k<m
  ·rw [ih e];rfl
  ·obtain this:k=m:=by exact aW 0x141066a0a041dcc41 0x2008021 [_,_] hk e
   subst this;have:(qd (fun k:Nat=>((k:Int),PV.ref (b+4*k+5))) (am k)).lookup (k:Int)=none:=by rw [jk];intro p hp;refine aE (ap.mp hp) fun j hj qz2=>?_;subst qz2;have:=bj.mp hj;simp;exact aQ 0x1bbb84e0cc22 1025 [_,_] this
   rw [this];simp
theorem Ex {m:Nat}:(dT b m).lookup (m:Int)=none:=by rw [jk];intro p hp;refine aE (ap.mp hp) fun j hj qz2=>?_;subst qz2;have:=bj.mp hj;simp;exact aQ 0x1bbb84e0cc22 1025 [_,_] this
theorem Ie {m:Nat}:pY (dT b m) (m:Int) (.ref (b+4*m+5))=dT b (m+1):=by
 delta pY;have:(dT b m).any (fun x=>decide (x.1=(m:Int)))=false:=by rw [jc];intro p hp;refine aE (ap.mp hp) fun j hj qz2=>?_;subst qz2;have:=bj.mp hj;simp;exact aQ 0x1bbb84e0cc41 1056 [_,_] this
 rw [this,if_neg (by decide)];delta dT;rw [i8,bv];rfl
theorem nU {m:Nat}:(dT b m).length=m:=by simp [dT]
theorem Sr.grow (x:Sr w H0 H rd np nf m c s) (hl:H.length=H0.length+3+4*m) (ep':Nat):
  Sr w H0 ((H++[PO.tuple []]++[PO.raw (sR []) [],PO.raw (iR 105) [PV.ref (H0.length+4*m+4),PV.int m,PV.int 0,PV.ref (H0.length+4*m+4+2)],PO.list []]).set (H0.length+2) (dP w (dT H0.length (m+1)) ep')) rd np nf (m+1) (upd c m 0) (upd s m []):=by
 walk_at "T w,H0,H,rd,np,nf,m,c,s x hl ep',";refine ⟨dF (lR (lR x.pre)) (by exact dw _ _),?_⟩;obtain ho167:=x.at_;walk_at "E ho167 : ep, h";refine ⟨ep',fun j hj=>?_⟩;obtain hlen:(H++[PO.tuple []]++[PO.raw (sR []) [],PO.raw (iR 105) [PV.ref (H0.length+4*m+4),PV.int m,PV.int 0,PV.ref (H0.length+4*m+4+2)],PO.list []]).length=H0.length+3+4*m+4:=by simp [hl]
 by_cases e:j=2
 ·subst e
  rw [gs (by exact aQ 0x4c4a120345110a2406a1a022 1025 [_,_,_] hlen)];rfl
 ·rw [fi (show H0.length+2≠H0.length+j from fun q=>e (by simp_all))]
  by_cases e2:j<3+4*m
  ·rw [old_get (old_get (h j e2))]
   by_cases e4:j<3
   ·obtain this:j=0∨j=1:=by exact aW 0x3540a0340203ba090198d01 0x840000021000200002008001000210002000020 [_] e e4
    rcases this with rfl|rfl<;>rfl
   have e3:(j - 3)/ 4≠m:=ez (Pp e4 e2);delta cell;rw [bQ e3,bQ e3,if_neg e,if_neg e]
  ·rw [aa]
   obtain ⟨q,hq⟩: ∃q,j=3+4*m+q:=⟨j - (3+4*m),by simp_all⟩;have hq4:q<4:=by exact aW 0x13220335120a0a06340a8a0a89018d02 33793 [_,_,_] hj hq
   rw [show H0.length+j=H.length+q by exact aW 0x51441a841a28902a86808e8a2289028d02 0x200042008401 [_,_,_,_,_] hl hq,cK];obtain ed:(j - 3)/ 4=m:=hq▸(dm hq4).1;delta cell;rw [ed,bW,bW,if_neg (by simp_all),if_neg (by (exact aQ 0x6e814068a1a89010d01 32769 [_,_,_] hq)),if_neg e];have em:(j - 3)%4=q:=hq▸(dm hq4).2;rw [em,hq,show H0.length+(3+4*m+q)=H0.length+4*m+3+q by exact jP 0x1450d43428901054a1a89010d01 33 [_,_,_]];clear hq em;by_cases q0:q=0
   ·subst q0;rfl
   by_cases q1:q=1
   ·subst q1;rfl
   by_cases q2:q=2
   ·subst q2;rfl
   obtain rfl:=ng (ik hq4) (m3 q0 q1 q2);rfl
end
section
variable {k z:PV}{qs:List PV}
variable {C:Cx} {st:St} {K:PV→St→Prop} {n:Nat}
theorem Lw {K':List (Str×PV)→St→Prop} {name qual:Str} {kV doc pm cdv ct:ak} {an:Option Addr} (hq:qs.length≤1) (h:K' [("self",z),("node",k),("predecessors", .ref st.h.length)] {st with h:=st.h++[.tuple qs]}):
  PB C (fnOf name qual (aP (aK 29 2)) (aX (aK 29 2)) (aU (aK 29 2)) .none kV doc pm an cdv ct) (z::k::qs) st K':=by
 refine zC (ps:=[z,k]) (qs:=qs) (ns:=["self","node"]) (y:="predecessors") rfl (aq hq (by decide)) (fun vs us h1 h2=>?_) h;obtain ⟨a,b,rfl⟩:=Lb h1;cases us with
 |nil=>rfl
 |cons u r=>cases r<;>rfl
theorem Dg (S:bS C (n+1)) (Y:KnC C.K) (hq:qs.length≤1)
  (hw: ∀zq:Zs,bS (Fz (aP (aK 29 2)) (aX (aK 29 2)) (aU (aK 29 2)) .none 152 ((["self","node","predecessors"]:List Str)++(["nodeinfo","pred","pred_info"]:List Str)) C zq) n→
   WS (Fz (aP (aK 29 2)) (aX (aK 29 2)) (aU (aK 29 2)) .none 152 ((["self","node","predecessors"]:List Str)++(["nodeinfo","pred","pred_info"]:List Str)) C zq) (aX (aK 29 2)) ⟨[some z,some k,some (.ref st.h.length),none,none,none],st.h++[.tuple qs]⟩ fun fl st2=>K (iL fl) ⟨st.v,st2.h⟩):PC C (.ref 152) (z::k::qs) st K:=by
 obtain hnd:((["self","node","predecessors"]:List Str)++(["nodeinfo","pred","pred_info"]:List Str)).Nodup:=by decide
 refine Cz ["nodeinfo","pred","pred_info"] Y.m_add.2.2.2 S.room (fun name qual kV doc pm an cdv ct=>Lw hq ⟨hnd,?_,fun L=>?_⟩)
 ·intro x hx
  obtain this:x="self"∨x="node"∨x="predecessors":=by simpa using hx
  rcases this with rfl|rfl|rfl<;>exact .inl (by decide+kernel)
 ·exact hw ⟨name,qual,kV,doc,pm,an,cdv,ct,L⟩ S.fn
theorem Gz {H0:List PO} {np nf:Int} {m:Nat} {c:Nat→Int} {s:Nat→List Nat} (S:bS C (n+7)) (Y:KnC C.K) (x:Sr C.w H0 st.h .none np nf m c s) (hl:st.h.length=H0.length+3+4*m) (hm:m<4)
  (h: ∀H',Sr C.w H0 H' .none np nf (m+1) (upd c m 0) (upd s m [])→H'.length=H0.length+3+4*(m+1)→K .none ⟨st.v,H'⟩):PC C (.ref 152) [.ref (H0.length+1), .int m] st K:=by
 walk_at "T C,st,K,n,H0,np,nf,m,c,s S Y x hl hm h";refine Dg S Y (qs:=[]) (by decide) ?_;walk_at "I zz, SD";have x1:=x.app [PO.tuple []];obtain ho221:=x1.n2;walk_at "E ho221 : ep, hn2";refine s_cons ?_;refine s_if ?_;ext;refine gK Y (by decide) x1.x x1.d rfl (fun u e=>by cases e) ?_;ext;refine rY rfl ?_;ext;refine ite_ff ?_;ext;walk_at "d";ext;refine ⟨⟨_,_,_,_,_,rfl,x1.x,x1.d,rfl⟩,?_⟩;ext;refine vF (n:=n) (N:=H0.length+4*m+4) SD Y x1.x x1.d hn2 (by rw [nU];exact aC (by exact aQ 0x4861a812199101 33 [_] hm)) Ex (by show (st.h++[_]).length=_;rw [aj,hl];simp;exact Nat.add_right_comm _ _ _) ?_;walk_at "I ep',";obtain hp:pY (dT H0.length m) (m:Int) (.ref (H0.length+4*m+4+1))=dT H0.length (m+1):=Ie;rw [hp];have x2:=x.grow hl ep';have hl2:((st.h++[PO.tuple []]++[PO.raw (sR []) [],PO.raw (iR 105) [PV.ref (H0.length+4*m+4),PV.int m,PV.int 0,PV.ref (H0.length+4*m+4+2)],PO.list []]).set (H0.length+2) (dP C.w (dT H0.length (m+1)) ep')).length=H0.length+3+4*(m+1):=by simp [hl];rfl
 have ht:((st.h++[PO.tuple []]++[PO.raw (sR []) [],PO.raw (iR 105) [PV.ref (H0.length+4*m+4),PV.int m,PV.int 0,PV.ref (H0.length+4*m+4+2)],PO.list []]).set (H0.length+2) (dP C.w (dT H0.length (m+1)) ep'))[st.h.length]? =some (.tuple []):=gn (by exact aQ 0x1ba09424068a2406a1a022 32800 [_,_,_] hl) (old_get g0);obtain ho243: ∃H2,H2=((st.h++[PO.tuple []]++[PO.raw (sR []) [],PO.raw (iR 105) [PV.ref (H0.length+4*m+4),PV.int m,PV.int 0,PV.ref (H0.length+4*m+4+2)],PO.list []]).set (H0.length+2) (dP C.w (dT H0.length (m+1)) ep')):=⟨_,rfl⟩;walk_at "E ho243 : H2, hH2";rw [←hH2] at x2 hl2 ht;refine kM (P:=fun s=>WS _ _ s _) (v:=[some (.ref (H0.length+1)),some (.int m),some (.ref st.h.length),some (.ref (H0.length+4*m+5)),none,none]) hH2.symm ?_;clear hH2;refine s_cons ?_;ext;refine qJ Y Y.s_npred (x2.ni (ch m)) (x2.dk (ch m)) rfl (fun u e=>by cases e) ?_;ext;refine xR ht (by decide) ?_;ext;refine uW (q:= .int (upd c m 0 m+0)) (us:=[.int m, .int (upd c m 0 m), .ref (H0.length+4*m+6)]) Y Y.s_npred (show 1<3 by decide) (by decide) (x2.ni (ch m)) (x2.dk (ch m)) ?_;ext;have x3:=x2.setC (ch m) (upd c m 0 m+0);obtain ec:upd (upd c m 0) m (upd c m 0 m+0)=upd c m 0:=by
  funext j
  by_cases e:j=m
  ·subst e;rw [bW,bW,m8]
  ·rw [bQ e]
 rw [ec] at x3;have ht3:=gn (o:= .raw (iR 105) [.ref (H0.length+4*m+4), .int m, .int (upd c m 0 m+0), .ref (H0.length+4*m+6)]) (d:=H0.length+4*m+5) (show H0.length+4*m+5≠st.h.length by exact aQ 0x1ba0d45428901068a2404a1a023 1025 [_,_,_] hl) ht;have hl3:(H2.set (H0.length+4*m+5) (.raw (iR 105) [.ref (H0.length+4*m+4), .int m, .int (upd c m 0 m+0), .ref (H0.length+4*m+6)])).length=H0.length+3+4*(m+1):=by rw [f0];exact hl2
 obtain ho265: ∃H3,H3=H2.set (H0.length+4*m+5) (.raw (iR 105) [.ref (H0.length+4*m+4), .int m, .int (upd c m 0 m+0), .ref (H0.length+4*m+6)]):=⟨_,rfl⟩;walk_at "E ho265 : H3, hH3";rw [←hH3] at x3 ht3 hl3;refine kM (P:=fun s=>W1 _ _ s _) (v:=[some (.ref (H0.length+1)),some (.int m),some (.ref st.h.length),some (.ref (H0.length+4*m+5)),none,none]) hH3.symm ?_;clear hH3;refine hV S.qf (cT S.qf ?_);ext;refine ⟨_,jD S.qf ht3,fun k s=>s=⟨[some (.ref (H0.length+1)),some (.int m),some (.ref st.h.length),some (.ref (H0.length+4*m+5)),none,none],H3⟩,0,rfl,?_,?_,?_,?_⟩
 ·rintro k _ q rfl hq
  refine aE (bX hq) fun xs h1 h2=>?_;rw [ht3] at h1;cases h1;simp at h2
 ·rintro k _ q rfl hq
  refine aE (bX hq) fun xs h1 h2=>?_;rw [ht3] at h1;cases h1;simp at h2
 ·rintro k _ rfl
  delta Iq;dsimp only;rw [ht3];simp
 ·rintro k _ rfl hq
  ext;exact h _ x3 hl3
theorem Gj {H0:List PO} {np nf:Int} {m k j:Nat} {c:Nat→Int} {s:Nat→List Nat} (S:bS C (n+7)) (Y:KnC C.K) (x:Sr C.w H0 st.h .none np nf m c s) (hk:k<m) (hj:j<m) (hz:(s j).length≤100)
  (h: ∀H',Sr C.w H0 H' .none np nf m (upd c k (c k+1)) (upd s j (s j++[k]))→K .none ⟨st.v,H'⟩):PC C (.ref 152) [.ref (H0.length+1), .int k, .int j] st K:=by
 walk_at "T C,st,K,n,H0,np,nf,m,k,j,c,s S Y x hk hj hz h";refine Dg S Y (qs:=[.int j]) (ay 1) ?_;walk_at "I zz, SD";have hl:=x.len;have x1:=x.app [PO.tuple [.int j]];obtain ho287:=x1.n2;walk_at "E ho287 : ep, hn2";refine s_cons ?_;refine s_if ?_;ext;refine gK Y (by decide) x1.x x1.d rfl (fun u e=>by cases e) ?_;ext;refine rY rfl ?_;ext;refine ite_ff ?_;ext;walk_at "d";ext;refine ⟨⟨_,_,_,_,_,rfl,x1.x,x1.d,rfl⟩,?_⟩;ext;refine mW (n:=n+5) SD Y x1.x x1.d hn2 (gY hk) ?_;ext;refine qJ Y Y.s_npred (x1.ni hk) (x1.dk hk) rfl (fun u e=>by cases e) ?_;ext;have ht:(st.h++[PO.tuple [PV.int j]])[st.h.length]? =some (.tuple [.int j]):=g0;refine xR ht (show 1≤100000 by decide) ?_;ext;refine uW (q:= .int (c k+1)) (us:=[.int k, .int (c k), .ref (H0.length+4*k+6)]) Y Y.s_npred (show 1<3 by decide) (by decide) (x1.ni hk) (x1.dk hk) ?_;ext;have x3:=x1.setC hk (c k+1);have ht3:=gn (o:= .raw (iR 105) [.ref (H0.length+4*k+4), .int k, .int (c k+1), .ref (H0.length+4*k+6)]) (d:=H0.length+4*k+5) (show H0.length+4*k+5≠st.h.length by exact aW 0xdd06a2a1448083320a435120450d01 132128 [_,_,_,_] hk hl) ht;obtain ho313: ∃H3,H3=(st.h++[PO.tuple [PV.int j]]).set (H0.length+4*k+5) (.raw (iR 105) [.ref (H0.length+4*k+4), .int k, .int (c k+1), .ref (H0.length+4*k+6)]):=⟨_,rfl⟩;walk_at "E ho313 : H3, hH3";rw [←hH3] at x3 ht3;let V (p q:Option PV):List (Option PV):=[some (.ref (H0.length+1)),some (.int k),some (.ref st.h.length),some (.ref (H0.length+4*k+5)),p,q];refine kM (P:=fun s=>W1 _ _ s _) (v:=V none none) hH3.symm ?_;clear hH3;refine hV S.qf (cT S.qf ?_);ext;refine ⟨_,jD S.qf ht3,fun i s'=>(i=0∧s'=⟨V none none,H3⟩)∨(i=1∧ ∃p q,s'=⟨V p q,H3.set (H0.length+4*j+6) (.list (pn (s j++[k])))⟩),1, .inl ⟨rfl,rfl⟩,?_,?_,?_,?_⟩
 ·rintro i s' q (⟨rfl,rfl⟩|⟨rfl,p,q',rfl⟩) hq
  ·exact rq _
  ·refine aE (bX hq) fun xs h1 h2=>?_
   rw [gn (by exact aW 0xdd06a321448083320a435120450d01 132128 [_,_,_,_] hj hl) ht3] at h1;cases h1;simp at h2
 ·rintro i s' q (⟨rfl,rfl⟩|⟨rfl,p,q',rfl⟩) hq
  ·refine aE (bX hq) fun xs h1 h2=>?_
   rw [ht3] at h1;cases h1;simp at h2;subst h2;ext;obtain ho331:=x3.n2;walk_at "E ho331 : ep3, hn3";walk_at "d";ext;refine ⟨⟨_,_,_,_,_,rfl,x3.x,x3.d,rfl⟩,?_⟩;ext;refine mW (n:=n+5) SD Y x3.x x3.d hn3 (gY hj) ?_;ext;walk_at "k";ext;refine qJ Y Y.s_succ (x3.ni hj) (x3.dk hj) rfl (fun u e=>by cases e) ?_;refine ⟨⟨_,x3.sl hj,rfl⟩,?_⟩;ext;refine eP (x3.sl hj) (by rw [bE];exact aC (by exact aq (by assumption) (ax _ _))) ?_;ext;refine .inl (.inr ⟨rfl,some (.int j),some (.ref (H0.length+4*j+5)),?_⟩);rw [mS];rfl
  ·refine aE (bX hq) fun xs h1 h2=>?_
   rw [gn (by exact aW 0xdd06a321448083320a435120450d01 132128 [_,_,_,_] hj hl) ht3] at h1;cases h1;simp at h2
 ·rintro i s' (⟨rfl,rfl⟩|⟨rfl,p,q',rfl⟩)
  ·delta Iq;dsimp only;rw [ht3];simp
  ·delta Iq;dsimp only;rw [gn (by exact aW 0xdd06a321448083320a435120450d01 132128 [_,_,_,_] hj hl) ht3];simp
 ·rintro i s' (⟨rfl,rfl⟩|⟨rfl,p,q',rfl⟩) hq
  ·refine aE (bX hq) fun xs h1 h2=>?_
   rw [ht3] at h1;cases h1;simp at h2
  ·ext
   exact h _ (x3.setS hj _)
end
end
section
section
variable {H:List PO}{c:Nat→Int}{lo r:Nat}{o:PO}
variable {C:Cx} {st:St} {K:PV→St→Prop} {n:Nat}
theorem Aj {H0:List PO} {np nf:Int} {m r:Nat} {c:Nat→Int} {s:Nat→List Nat} {rdy:List Nat} (S:bS C (n+1)) (Y:KnC C.K) (x:Sr C.w H0 st.h (.ref r) np nf m c s) (hr:st.h[r]? =some (.list (pn rdy))) (hz:rdy.length≤100)
  (h:K (.bool (decide (nf<np)|| !rdy.isEmpty)) st):PC C (.ref 171) [.ref (H0.length+1)] st K:=by
 walk_at "T C,st,K,n,H0,np,nf,m,r,c,s,rdy S Y x hr hz h";refine jO S ["self"] [] Y.m_active.2.2.2 rfl (fun _ _ _ _ _ _ _ _=>iK fun v=>rfl) (by decide) (by decide) ?_;walk_at "I zz, SD";refine s_cons ?_;refine s_if ?_;ext;refine gK Y (by decide) x.x x.d rfl (fun u e=>by cases e) ?_;ext;refine qO rfl ?_;ext;refine ite_ff ?_;ext;refine Mv ?_;ext;refine gK Y (by decide) x.x x.d rfl (fun u e=>by cases e) ?_;ext;refine gK Y (by decide) x.x x.d rfl (fun u e=>by cases e) ?_;ext;refine aY (fun hb=>?_) (fun hb=>?_)
 ·rw [hb]
  rw [hb] at h;exact h
 ·ext
  refine gK Y (by decide) x.x x.d rfl (fun u e=>by cases e) ?_;ext;refine Gr hr (by rw [bE];exact aC (by exact aq (by assumption) (ax _ _))) ?_;rw [hb,mo] at h;have e:(pn rdy).isEmpty=rdy.isEmpty:=by cases rdy<;>rfl
  rw [e];exact h
def Fx (lo r:Nat) (H H':List PO):Prop:= ∀i o,lo≤i→i≠r→H[i]? =some o→H'[i]? =some o
theorem Fx.trans {H' H'':List PO} (a:Fx lo r H H') (b:Fx lo r H' H''):Fx lo r H H'':=fun i o h1 h2 h3=>b i o h1 h2 (a i o h1 h2 h3)
theorem Fx.low {i:Nat} (h:i<lo):Fx lo r H (H.set i o):=fun j _ h1 _ h3=>gn (by exact aW 0x374106630c843 33824 [_,_,_] h h1) h3
theorem Fx.at_:Fx lo r H (H.set r o):=fun j _ _ h2 h3=>gn (fun e=>h2 e.symm) h3
theorem Fx.app {J:List PO}:Fx lo r H (H++J):=fun _ _ _ _ h3=>old_get h3
def nK (c:Nat→Int) (l:List Nat):Nat→Int:=fun j=>if j∈l then -1 else c j
theorem Et:nK c []=c:=by funext j;simp [nK]
theorem Ae {l:List Nat} {k:Nat}:upd (nK c l) k (-1)=nK c (l++[k]):=by
 funext j
 delta upd nK;by_cases e:j=k<;>by_cases e2:j∈l<;>simp [e,e2]
inductive Qt (w:aw) (H0 h0:List PO) (r m:Nat) (np nf:Int) (c:Nat→Int) (s:Nat→List Nat) (rdy:List Nat) (i:Nat) (s':St):Prop
 |mk (hi:i≤rdy.length) (q:Option PV) (H:List PO) (e:s'=⟨[some (.ref (H0.length+1)),some (.ref h0.length),some (.ref (H0.length+2)),q],H⟩) (y:Sr w H0 H (.ref r) np nf m (nK c (rdy.take i)) s) (h1:H[r]? =some (.list (pn rdy)))
   (h2:H[h0.length]? =some (.tuple (pn rdy))) (fx:Fx (H0.length+3+4*m) r h0 H):Qt w H0 h0 r m np nf c s rdy i s'
theorem Dm {H0:List PO} {np nf:Int} {m r:Nat} {c:Nat→Int} {s:Nat→List Nat} {rdy:List Nat} (S:bS C (n+1)) (Y:KnC C.K) (x:Sr C.w H0 st.h (.ref r) np nf m c s) (hr:st.h[r]? =some (.list (pn rdy))) (hr0:H0.length+3+4*m≤r) (hz:rdy.length≤100) (hm: ∀k∈rdy,k<m)
  (h: ∀H' t,Sr C.w H0 H' (.ref r) (np+rdy.length) nf m (nK c rdy) s→H'[r]? =some (.list [])→H'[t]? =some (.tuple (pn rdy))→H0.length+3+4*m≤t→t≠r→Fx (H0.length+3+4*m) r st.h H'→K (.ref t) ⟨st.v,H'⟩):PC C (.ref 164) [.ref (H0.length+1)] st K:=by
 walk_at "T C,st,K,n,H0,np,nf,m,r,c,s,rdy S Y x hr hr0 hz hm h";refine jO S ["self"] ["result","n2i","node"] Y.m_ready.2.2.2 rfl (fun _ _ _ _ _ _ _ _=>iK fun v=>rfl) (by decide) (by decide) ?_;walk_at "I zz, SD";have hl:=x.len;have hrl:=(af.mp hr).1;refine s_cons ?_;refine s_if ?_;ext;refine gK Y (by decide) x.x x.d rfl (fun u e=>by cases e) ?_;ext;refine qO rfl ?_;ext;refine ite_ff ?_;ext;refine gK Y (by decide) x.x x.d rfl (fun u e=>by cases e) ?_;ext;refine Ij hr (by rw [bE];exact aC (by exact aq (by assumption) (ax _ _))) ?_;ext;have x1:=x.app [PO.tuple (pn rdy)];have hr1:=old_get (J:=[PO.tuple (pn rdy)]) hr;have ht1:(st.h++[PO.tuple (pn rdy)])[st.h.length]? =some (.tuple (pn rdy)):=g0;refine gK Y (by decide) x1.x x1.d rfl (fun u e=>by cases e) ?_;ext;have fx1:Fx (H0.length+3+4*m) r st.h (st.h++[PO.tuple (pn rdy)]):=Fx.app;obtain ⟨H1,hH1⟩: ∃H1,H1=st.h++[PO.tuple (pn rdy)]:=⟨_,rfl⟩;rw [←hH1] at x1 hr1 ht1 fx1;let V (q:Option PV):List (Option PV):=[some (.ref (H0.length+1)),some (.ref st.h.length),some (.ref (H0.length+2)),q];refine kM (P:=fun s=>W1 _ _ s _) (v:=V none) hH1.symm ?_;clear hH1;refine hV S.qf (cT S.qf ?_);ext;refine ⟨_,jD S.qf ht1,Qt C.w H0 st.h r m np nf c s rdy,rdy.length,⟨cz _,none,H1,rfl,by rw [jg,Et];exact x1,hr1,ht1,fx1⟩,?_,?_,?_,?_⟩
 ·rintro i _ q ⟨hi,q',H,rfl,y,h1,h2,fx⟩ hq
  refine aE (bX hq) fun xs g1 g2=>?_;rw [h2] at g1;cases g1;have:=(af.mp g2).1;rw [bE] at this;exact this
 ·rintro i _ q ⟨hi,q',H,rfl,y,h1,h2,fx⟩ hq
  refine aE (bX hq) fun xs g1 g2=>?_;rw [h2] at g1;cases g1;have hil:=(af.mp g2).1;rw [bE] at hil;rw [pV hil] at g2;cases g2;have hk:rdy.getD i 0=rdy[i]:=by rw [ao,ae hil];rfl
  have hkm:rdy.getD i 0<m:=by rw [hk];exact hm _ (cg hil)
  generalize hkk:rdy.getD i 0=k at*;obtain ho95:=y.n2;walk_at "E ho95 : ep, hn";ext;refine rQ hn (gY hkm) ?_;refine uW (q:= .int (-1)) (us:=[.int k, .int (nK c (rdy.take i) k), .ref (H0.length+4*k+6)]) Y Y.s_npred (show 1<3 by decide) (by decide) (y.ni hkm) (y.dk hkm) ?_;ext;refine .inl ⟨hil,some (.int k),_,rfl,?_,gn (by exact aW 0xdd06a2a144808321a890228680cc82 36896 [_,_,_,_] hr0 hkm) h1,gn (by exact aW 0xdd06a2a144808321a890228680cc82 36896 [_,_,_,_] hl hkm) h2,fx.trans (Fx.low (by exact aQ 0x9a8901a8680a8a8512020cc62 129 [_,_,_] hkm))⟩;have y2:=y.setC hkm (-1);rw [Ae] at y2;obtain et:rdy.take (i+1)=rdy.take i++[k]:=by rw [d7,ae hil, ←hk];rfl
  rw [et];exact y2
 ·rintro i _ ⟨hi,q',H,rfl,y,h1,h2,fx⟩
  delta Iq;dsimp only;rw [h2];simp
 ·rintro i _ ⟨hi,q',H,rfl,y,h1,h2,fx⟩ hq
  refine aE (bX hq) fun xs g1 g2=>?_;rw [h2] at g1;cases g1;obtain hil:i=rdy.length:=by rw [bz,bE] at g2;exact aW 0x14106420c822 0x2008021 [_,_] hi g2
  subst hil;rw [iz] at y;have hl2:=y.len;obtain hrl2:=(af.mp h1).1;ext;walk_at "k";ext;refine gK Y (by decide) y.x y.d rfl (fun u e=>by cases e) ?_;refine ⟨⟨_,h1,rfl⟩,?_⟩;refine Il h1 (by rw [bE];exact aC (by exact aQ 0x2430d4090c80019121 33 [_] hz)) ?_;ext;have y1:=y.out hr0 (.list []);refine gK Y (by decide) y1.x y1.d rfl (fun u e=>by cases e) ?_;ext;refine xR (gn (by exact ez (by assumption)) h2) (by rw [bE];exact aC (by exact aQ 0x2430d4090c80019121 33 [_] hz)) ?_;ext;rw [bE];refine Dh (q:= .int (np+rdy.length)) Y (by decide) y1.x y1.d (by decide) rfl ?_;ext;refine h _ _ (y1.setD (.ref r) (np+rdy.length) nf) (gn (by exact aQ 0x374106425120350d01 1056 [_,_,_] hr0) (gs hrl2)) (gn (by exact aQ 0x374106425120350d01 1056 [_,_,_] hl) (gn (by exact ez (by assumption)) h2)) (by assumption) (by exact gm (by assumption)) (fx.trans (Fx.trans Fx.at_ (Fx.low (by exact jP 0x26a2404a1a021 1 [_,_]))))
end
end
section
variable {l:List Nat}
abbrev CR:=(Nat→Int)×List Nat
def wJ (p:CR) (x:Nat):CR:=(upd p.1 x (p.1 x - 1),if p.1 x - 1=0 then p.2++[x] else p.2)
def kQ (l:List Nat) (p:CR):CR:=l.foldl wJ p
def nI (s:Nat→List Nat):List Nat→CR→Option CR
 |[],p=>some p
 |k::ks,p=>if p.1 k= -1 then nI s ks (kQ (s k) (upd p.1 k (-2),p.2)) else none
theorem yH (s k ks p):nI s (k::ks) p=(if p.1 k= -1 then nI s ks (kQ (s k) (upd p.1 k (-2),p.2)) else none):=rfl
theorem Ac {p:CR} {i:Nat} (h:i<l.length):kQ (l.take (i+1)) p=wJ (kQ (l.take i) p) l[i]:=by delta kQ;rw [d7,ae h,List.foldl_append];rfl
theorem vE: ∀{p:CR},(kQ l p).2.length≤p.2.length+l.length:=by
 induction l with
 |nil=>intro p;exact ay _
 |cons a l ih=>
  intro p;refine aq (ih (p:=wJ p a)) ?_;obtain this:(wJ p a).2.length≤p.2.length+1:=by
   delta wJ;dsimp only;split
   ·rw [aj];exact ay _
   ·exact jn _
  rw [cn];exact aQ 0x929414086a1064a0a061 33 [_,_,_] this
section
variable {qs:List PV}{z:PV}
variable {C:Cx} {st:St} {K:PV→St→Prop} {n:Nat}
theorem Gx {K':List (Str×PV)→St→Prop} {name qual:Str} {kV doc pm cdv ct:ak} {an:Option Addr} (hq:qs.length≤4) (h:K' [("self",z),("nodes", .ref st.h.length)] {st with h:=st.h++[.tuple qs]}):
  PB C (fnOf name qual (aP (aK 29 7)) (aX (aK 29 7)) (aU (aK 29 7)) .none kV doc pm an cdv ct) (z::qs) st K':=by
 refine zC (ps:=[z]) (qs:=qs) (ns:=["self"]) (y:="nodes") rfl (aq hq (by decide)) (fun vs us h1 h2=>?_) h;obtain ⟨a,rfl⟩:=Ad h1;cases us with
 |nil=>rfl
 |cons u r=>cases r<;>rfl
theorem Im (S:bS C (n+1)) (Y:KnC C.K) (hq:qs.length≤4)
  (hw: ∀zq:Zs,bS (Fz (aP (aK 29 7)) (aX (aK 29 7)) (aU (aK 29 7)) .none 185 ((["self","nodes"]:List Str)++(["n2i","node","nodeinfo","stat","successor","successor_info"]:List Str)) C zq) n→WS (Fz (aP (aK 29 7)) (aX (aK 29 7)) (aU (aK 29 7)) .none 185 ((["self","nodes"]:List Str)++(["n2i","node","nodeinfo","stat","successor","successor_info"]:List Str)) C zq) (aX (aK 29 7)) ⟨[some z,some (.ref st.h.length),none,none,none,none,none,none],st.h++[.tuple qs]⟩ fun fl st2=>K (iL fl) ⟨st.v,st2.h⟩):He C (.ref 185) (z::qs) st K:=by
 obtain hnd:((["self","nodes"]:List Str)++(["n2i","node","nodeinfo","stat","successor","successor_info"]:List Str)).Nodup:=by decide
 refine rZ ["n2i","node","nodeinfo","stat","successor","successor_info"] Y.m_done.2.2.2 S.room (fun name qual kV doc pm an cdv ct=>Gx hq ⟨hnd,?_,fun L=>?_⟩)
 ·intro x hx
  obtain this:x="self"∨x="nodes":=by simpa using hx
  rcases this with rfl|rfl<;>exact .inl (by decide+kernel)
 ·exact hw ⟨name,qual,kV,doc,pm,an,cdv,ct,L⟩ S.fn
inductive Rk (w:aw) (H0 h0:List PO) (r m:Nat) (np nf:Int) (s:Nat→List Nat) (nodes:List Nat) (rd:Nat) (p':CR) (i:Nat) (s':St):Prop
 |mk (hi:i≤nodes.length) (q1 q2 q3 q4 q5:Option PV) (H:List PO) (p:CR) (e:s'=⟨[some (.ref (H0.length+1)),some (.ref h0.length),some (.ref (H0.length+2)),q1,q2,q3,q4,q5],H⟩) (y:Sr w H0 H (.ref r) np (nf+i) m p.1 s)
   (h1:H[r]? =some (.list (pn p.2))) (h2:H[h0.length]? =some (.tuple (pn nodes))) (h3:nI s (nodes.drop i) p=some p') (h4:p.2.length≤rd+100*i) (fx:Fx (H0.length+3+4*m) r h0 H):Rk w H0 h0 r m np nf s nodes rd p' i s'
inductive Qs (w:aw) (H0 h0:List PO) (r m:Nat) (np nf:Int) (s:Nat→List Nat) (nodes:List Nat) (k:Nat) (p0:CR) (j:Nat) (s':St):Prop
 |mk (hj:j≤(s k).length) (q4 q5:Option PV) (H:List PO) (e:s'=⟨[some (.ref (H0.length+1)),some (.ref h0.length),some (.ref (H0.length+2)),some (.int k),some (.ref (H0.length+4*k+5)),some (.int (-1)),q4,q5],H⟩)
   (z:Sr w H0 H (.ref r) np nf m (kQ ((s k).take j) p0).1 s) (w1:H[r]? =some (.list (pn (kQ ((s k).take j) p0).2))) (w2:H[h0.length]? =some (.tuple (pn nodes))) (fz:Fx (H0.length+3+4*m) r h0 H):Qs w H0 h0 r m np nf s nodes k p0 j s'
theorem Ig {H0:List PO} {np nf:Int} {m r:Nat} {c:Nat→Int} {s:Nat→List Nat} {rdy nodes:List Nat} {p':CR} (S:bS C (n+1)) (Y:KnC C.K) (x:Sr C.w H0 st.h (.ref r) np nf m c s) (hr:st.h[r]? =some (.list (pn rdy))) (hr0:H0.length+3+4*m≤r)
  (hz:nodes.length≤4) (hzr:rdy.length≤100) (hzs: ∀k<m,(s k).length≤100) (hs: ∀k<m, ∀j∈s k,j<m) (hm: ∀k∈nodes,k<m) (hd:nI s nodes (c,rdy)=some p')
  (h: ∀H',Sr C.w H0 H' (.ref r) np (nf+nodes.length) m p'.1 s→H'[r]? =some (.list (pn p'.2))→Fx (H0.length+3+4*m) r st.h H'→K .none ⟨st.v,H'⟩):He C (.ref 185) (.ref (H0.length+1)::pn nodes) st K:=by
 walk_at "T C,st,K,n,H0,np,nf,m,r,c,s,rdy,nodes,p' S Y x hr hr0 hz hzr hzs hs hm hd h";refine Im S Y (by rw [bE];exact hz) ?_;walk_at "I zz, SD";have hl:=x.len;have hrl:=(af.mp hr).1;have x1:=x.app [PO.tuple (pn nodes)];have hr1:=old_get (J:=[PO.tuple (pn nodes)]) hr;have ht1:(st.h++[PO.tuple (pn nodes)])[st.h.length]? =some (.tuple (pn nodes)):=g0;refine s_cons ?_;refine s_if ?_;ext;refine gK Y (by decide) x1.x x1.d rfl (fun u e=>by cases e) ?_;ext;refine qO rfl ?_;ext;refine ite_ff ?_;ext;refine gK Y (by decide) x1.x x1.d rfl (fun u e=>by cases e) ?_;ext;have fx1:Fx (H0.length+3+4*m) r st.h (st.h++[PO.tuple (pn nodes)]):=Fx.app;obtain ho61: ∃H1,H1=st.h++[PO.tuple (pn nodes)]:=⟨_,rfl⟩;walk_at "E ho61 : H1, hH1";rw [←hH1] at x1 hr1 ht1 fx1;let V (a b d e f:Option PV):List (Option PV):=[some (.ref (H0.length+1)),some (.ref st.h.length),some (.ref (H0.length+2)),a,b,d,e,f];refine kM (P:=fun s=>W1 _ _ s _) (v:=V none none none none none) hH1.symm ?_;clear hH1;refine hV S.qf (cT S.qf ?_);ext;refine ⟨_,jD S.qf ht1,Rk C.w H0 st.h r m np nf s nodes rdy.length p',
  nodes.length,⟨cz _,none,none,none,none,none,H1,(c,rdy),rfl,by simpa using x1,hr1,ht1,hd,(by show rdy.length≤_;exact ay _),fx1⟩,?_,?_,?_,?_⟩
 ·rintro i _ q ⟨hi,q1,q2,q3,q4,q5,H,p,rfl,y,h1,h2,h3,h4,fx⟩ hq
  refine aE (bX hq) fun xs g1 g2=>?_;rw [h2] at g1;cases g1;have:=(af.mp g2).1;rw [bE] at this;exact this
 ·intro i zs q zI hq
  refine Jq fun κ1 kk1=>?_;obtain ⟨hi,q1,q2,q3,q4,q5,H,p,rfl,y,h1,h2,h3,h4,fx⟩:=zI;refine aE (bX hq) fun xs g1 g2=>?_;rw [h2] at g1;cases g1;have hil:=(af.mp g2).1;rw [bE] at hil;rw [pV hil] at g2;cases g2;have hk:nodes.getD i 0=nodes[i]:=by rw [ao,ae hil];rfl
  have hkm:nodes.getD i 0<m:=by rw [hk];exact hm _ (cg hil)
  rw [ck hil, ←hk] at h3;generalize hkk:nodes.getD i 0=k at*;rw [yH] at h3;split at h3
  ·rename_i hck
   obtain ho92:=y.n2;walk_at "E ho92 : ep, hn";ext;walk_at "d";ext;refine ⟨iJ hn,?_⟩;ext;refine wW hn ?_;rw [gY hkm];ext;refine qO rfl ?_;ext;refine ite_ff ?_;ext;refine qJ Y Y.s_npred (y.ni hkm) (y.dk hkm) rfl (fun u e=>by cases e) ?_;ext;rw [hck];refine ite_ff ?_;refine s_nil ?_;ext;refine uW (q:= .int (-2)) (us:=[.int k, .int (p.1 k), .ref (H0.length+4*k+6)]) Y Y.s_npred (show 1<3 by decide) (by decide) (y.ni hkm) (y.dk hkm) ?_;ext;have y2:=y.setC hkm (-2);obtain ⟨H2,hH2⟩: ∃H2,H2=H.set (H0.length+4*k+5) (.raw (iR 105) [.ref (H0.length+4*k+4), .int k, .int (-2), .ref (H0.length+4*k+6)]):=⟨_,rfl⟩;obtain fx2:Fx (H0.length+3+4*m) r st.h H2:=by rw [hH2];exact fx.trans (Fx.low (by exact aQ 0x9a8901a8680a8a8512020cc62 129 [_,_,_] hkm))
   obtain h1':H2[r]? =some (.list (pn p.2)):=by rw [hH2];exact gn (by exact aW 0xdd06a2a144808321a890228680cc82 36896 [_,_,_,_] hr0 hkm) h1
   obtain h2':H2[st.h.length]? =some (.tuple (pn nodes)):=by rw [hH2];exact gn (by exact aW 0xdd06a2a144808321a890228680cc82 36896 [_,_,_,_] hl hkm) h2
   rw [←hH2] at y2;refine kM (P:=fun s=>W1 _ _ s _) (v:=V (some (.int k)) (some (.ref (H0.length+4*k+5))) (some (.int (-1))) q4 q5) hH2.symm ?_;clear hH2;refine hV S.qf (cT S.qf ?_);ext;refine qJ Y Y.s_succ (y2.ni hkm) (y2.dk hkm) rfl (fun u e=>by cases e) ?_;obtain hsl:=hzs k hkm;refine ⟨_,cN S.qf (y2.sl hkm),Qs C.w H0 st.h r m np (nf+i) s nodes k (upd p.1 k (-2),p.2),
    (s k).length,⟨cz _,q4,q5,H2,rfl,y2,h1',h2',fx2⟩,?_,?_,?_,?_⟩
   ·rintro j _ q ⟨hj,q4,q5,H,rfl,z,w1,w2,fz⟩ hq
    refine aE (dU hq) fun xs g1 g2=>?_;rw [z.sl hkm] at g1;cases g1;have:=(af.mp g2).1;rw [bE] at this;exact this
   ·intro j zs q zI hq
    refine Jq fun κ2 kk2=>?_;obtain ⟨hj,q4,q5,H,rfl,z,w1,w2,fz⟩:=zI;refine aE (dU hq) fun xs g1 g2=>?_;rw [z.sl hkm] at g1;cases g1;have hjl:=(af.mp g2).1;rw [bE] at hjl;rw [pV hjl] at g2;cases g2;have hk2:(s k).getD j 0=(s k)[j]:=by rw [ao,ae hjl];rfl
    have hjm:(s k).getD j 0<m:=by rw [hk2];exact hs k hkm _ (cg hjl)
    have hst:=Ac (p:=(upd p.1 k (-2),p.2)) hjl;rw [←hk2] at hst;obtain hlen:(kQ ((s k).take j) (upd p.1 k (-2),p.2)).2.length≤p.2.length+100:=by refine aq vE ?_;rw [gy];show p.2.length+_≤_;exact aQ 0x9280019121530620c80019123 0x2008421 [_,_,_] hsl
    generalize (s k).getD j 0=q at*;generalize kQ ((s k).take j) (upd p.1 k (-2),p.2)=pj at*;obtain ho151:=z.n2;walk_at "E ho151 : ep, hn";ext;refine rQ hn (gY hjm) ?_;ext;refine qJ Y Y.s_npred (z.ni hjm) (z.dk hjm) rfl (fun u e=>by cases e) ?_;ext;refine uW (q:= .int (pj.1 q - 1)) (us:=[.int q, .int (pj.1 q), .ref (H0.length+4*q+6)]) Y Y.s_npred (show 1<3 by decide) (by decide) (z.ni hjm) (z.dk hjm) ?_;have z2:=z.setC hjm (pj.1 q - 1);obtain ⟨H3,hH3⟩: ∃H3,H3=H.set (H0.length+4*q+5) (.raw (iR 105) [.ref (H0.length+4*q+4), .int q, .int (pj.1 q - 1), .ref (H0.length+4*q+6)]):=⟨_,rfl⟩;have fz3:Fx (H0.length+3+4*m) r st.h H3:=by rw [hH3];exact fz.trans (Fx.low (by exact aQ 0x9a8901a8680a8a8512020cc62 129 [_,_,_] hjm))
    have w1':H3[r]? =some (.list (pn pj.2)):=by rw [hH3];exact gn (by exact aW 0xdd06a2a144808321a890228680cc82 36896 [_,_,_,_] hr0 hjm) w1
    have w2':H3[st.h.length]? =some (.tuple (pn nodes)):=by rw [hH3];exact gn (by exact aW 0xdd06a2a144808321a890228680cc82 36896 [_,_,_,_] hl hjm) w2
    rw [←hH3] at z2;ext;refine kM (P:=fun s=>GA _ _ _ s _) (v:=V (some (.int k)) (some (.ref (H0.length+4*k+5))) (some (.int (-1))) (some (.int q)) (some (.ref (H0.length+4*q+5)))) hH3.symm ?_;clear hH3;refine qJ Y Y.s_npred (z2.ni hjm) (z2.dk hjm) rfl (fun u e=>by cases e) ?_;rw [bW];ext;refine aY (fun hb=>?_) (fun hb=>?_)
    ·have h0:pj.1 q - 1=0:=by simpa using hb
     refine s_cons ?_;ext;walk_at "k";ext;refine gK Y (by decide) z2.x z2.d rfl (fun u e=>by cases e) ?_;refine ⟨⟨_,w1',rfl⟩,?_⟩;ext;have hrl3:=(af.mp w1').1;refine eP w1' (by rw [bE];exact aC (by lia)) ?_;ext;refine .inl ⟨hjl,some (.int q),some (.ref (H0.length+4*q+5)),_,rfl,?_,?_,gn (by exact ez (by assumption)) w2',fz3.trans Fx.at_⟩
     ·rw [hst];exact z2.out hr0 _
     ·rw [hst]
      delta wJ
      try dsimp only
      rw [if_pos h0,mS];exact gs hrl3
    ·obtain h0:pj.1 q - 1≠0:=by simpa using hb
     refine s_nil ?_;ext;refine .inl ⟨hjl,some (.int q),some (.ref (H0.length+4*q+5)),_,rfl,?_,?_,w2',fz3⟩
     ·rw [hst];exact z2
     ·rw [hst]
      delta wJ
      try dsimp only
      rw [if_neg h0];exact w1'
   ·rintro j _ ⟨hj,q4,q5,H,rfl,z,w1,w2,fz⟩
    delta iS;dsimp only;rw [z.sl hkm];simp
   ·rintro j _ ⟨hj,q4,q5,H,rfl,z,w1,w2,fz⟩ hq
    refine aE (dU hq) fun xs g1 g2=>?_;rw [z.sl hkm] at g1;cases g1;obtain hjl:j=(s k).length:=by rw [bz,bE] at g2;exact aW 0x14106420c822 0x2008021 [_,_] hj g2
    subst hjl;rw [iz] at z w1;have hlen:(kQ (s k) (upd p.1 k (-2),p.2)).2.length≤p.2.length+100:=aq vE (by show p.2.length+_≤_;exact Nat.add_le_add_left (by assumption) _);ext;refine gK Y (by decide) z.x z.d rfl (fun u e=>by cases e) ?_;ext;refine Dh (q:= .int (nf+i+1)) Y (by decide) z.x z.d (by decide) rfl ?_;ext;have hrl3:=(af.mp w1).1;obtain z4:=z.setD (.ref r) np (nf+i+1);refine .inl ⟨hil,_,_,_,q4,q5,_,_,rfl,?_,gn (by exact aQ 0x374106425120350d01 1056 [_,_,_] hr0) w1,gn (by exact aQ 0x374106425120350d01 1056 [_,_,_] hl) w2,h3,by lia,fz.trans (Fx.low (by exact jP 0x26a2404a1a021 1 [_,_]))⟩;rw [show nf+((i+1:Nat):Int)=nf+i+1 by lia];exact z4
  ·cases h3
 ·rintro i _ ⟨hi,q1,q2,q3,q4,q5,H,p,rfl,y,h1,h2,h3,h4,fx⟩
  delta Iq;dsimp only;rw [h2];simp
 ·rintro i _ ⟨hi,q1,q2,q3,q4,q5,H,p,rfl,y,h1,h2,h3,h4,fx⟩ hq
  refine aE (bX hq) fun xs g1 g2=>?_;rw [h2] at g1;cases g1;obtain hil:i=nodes.length:=by rw [bz,bE] at g2;exact aW 0x14106420c822 0x2008021 [_,_] hi g2
  subst hil;rw [List.drop_length] at h3;cases h3;ext;exact h _ y h1 fx
end
end
section
variable {l:List Nat}{m v:Nat}{s:Nat→List Nat}{seen:Nat→Bool}
def dN (s:Nat→List Nat):List (Nat×Nat)→Option (Nat×List (Nat×Nat))
 |[]=>none
 |(u,k)::r=>match (s u)[k]? with
  |some v=>some (v,(u,k+1)::r)
  |none=>dN s r
theorem lP (s u k r):dN s ((u,k)::r)=(match (s u)[k]? with
  |some v=>some (v,(u,k+1)::r)
  |none=>dN s r):=rfl
def gI (s:Nat→List Nat):Nat→Nat→(Nat→Bool)→List (Nat×Nat)→Option (Nat→Bool)
 |0,_,seen,_=>some seen
 |f+1,v,seen,rs=>
  if seen v=true then
   if rs.any (fun e=>e.1==v)=true then none
   else match dN s rs with
    |none=>some seen
    |some (v',rs')=>gI s f v' seen rs'
  else match dN s ((v,0)::rs) with
   |none=>some (upd seen v true)
   |some (v',rs')=>gI s f v' (upd seen v true) rs'
theorem sL (s f v seen rs):gI s (f+1) v seen rs=(if seen v=true then
   if rs.any (fun e=>e.1==v)=true then none
   else match dN s rs with
    |none=>some seen
    |some (v',rs')=>gI s f v' seen rs'
  else match dN s ((v,0)::rs) with
   |none=>some (upd seen v true)
   |some (v',rs')=>gI s f v' (upd seen v true) rs'):=rfl
def cV (s:Nat→List Nat) (F:Nat):List Nat→(Nat→Bool)→Bool
 |[],_=>false
 |v::r,seen=>if seen v=true then cV s F r seen else match gI s F v seen [] with
  |none=>true
  |some seen'=>cV s F r seen'
theorem nR (s F v r seen):cV s F (v::r) seen=(if seen v=true then cV s F r seen else match gI s F v seen [] with
  |none=>true
  |some seen'=>cV s F r seen'):=rfl
def fX (s:Nat→List Nat) (rs:List (Nat×Nat)):Nat:=(rs.map fun e=>(s e.1).length+1 - e.2).sum
def kH (s:Nat→List Nat) (m:Nat) (seen:Nat→Bool):Nat:=((am m).map fun u=>if seen u=true then 0 else (s u).length+2).sum
theorem kJ: ∀{rs:List (Nat×Nat)} {v:Nat} {rs':List (Nat×Nat)},dN s rs=some (v,rs')→fX s rs'<fX s rs:=by
 intro zi;induction zi with
 |nil=>intros;contradiction
 |cons ze r ih=>
  obtain ⟨u,k⟩:=ze;intro v rs' h;rw [lP] at h;split at h
  ·rename_i w hw
   cases h;have:=(af.mp hw).1;delta fX;simp only [bg,ki];exact aQ 0x4d4358941405435a828128280cc22 0x8020080010002100001 [_,_,_] this
  ·have:=ih h
   delta fX at*;simp only [bg,ki];exact c6 (by assumption) (ax _ _)
theorem yN {g:Nat→Nat} {a:Nat}: ∀{m:Nat},v<m→((am m).map (upd g v a)).sum+g v=((am m).map g).sum+a:=by
 intro zi;induction zi with
 |zero=>intro h;exact absurd (by assumption) (ko _)
 |succ m ih=>
  intro h;rw [i8,bv,bv,m7,m7];simp only [bg,gi,ki,List.sum_nil];by_cases e:v=m
  ·subst e
   have: ∀k,k≤v→((am k).map (upd g v a))=(am k).map g:=by intro k hk;refine gv fun j hj=>?_;have:=bj.mp hj;exact bQ (by exact aW 0x374106421cc61 33824 [_,_,_] hk this)
   rw [this v (ay _),bW];exact Nat.add_right_comm _ _ _
  ·have:=ih (by exact aW 0x131066a0a041dd041 0x2100021 [_,_] h e)
   rw [bQ (fun q=>e q.symm)];exact aQ 0xa28aa501022286a501020d14522861 0x108401 [_,_,_,_,_] this
theorem pR (hv:v<m) (h:seen v=false):kH s m (upd seen v true)+((s v).length+2)=kH s m seen:=by
 delta kH;have e:(fun u=>if upd seen v true u=true then 0 else (s u).length+2)=upd (fun u=>if seen u=true then 0 else (s u).length+2) v 0:=by
  funext u
  by_cases e:u=v
  ·subst e;rw [bW,bW,if_pos rfl]
  ·rw [bQ e,bQ e]
 rw [e];have:=yN (g:=fun u=>if seen u=true then 0 else (s u).length+2) (v:=v) (a:=0) hv;simp only [h,bu,if_false] at this;assumption
def eG (m:Nat) (seen:Nat→Bool):Nat:=((am m).filter seen).length
theorem xC (hv:v<m) (h:seen v=false):eG m (upd seen v true)=eG m seen+1:=by
 delta eG;have k: ∀(f:Nat→Bool),((am m).filter f).length=((am m).map fun u=>if f u=true then 1 else 0).sum:=by
  intro f;generalize am m=l;induction l with
  |nil=>rfl
  |cons a l ih=>rw [c9];split<;>rename_i q<;>simp [q,ih];(exact Nat.add_comm _ _)
 rw [k,k];have e:(fun u=>if upd seen v true u=true then 1 else 0)=upd (fun u=>if seen u=true then 1 else 0) v 1:=by
  funext u
  by_cases e:u=v
  ·subst e;rw [bW,bW,if_pos rfl]
  ·rw [bQ e,bQ e]
 rw [e];have:=yN (g:=fun u=>if seen u=true then 1 else 0) (v:=v) (a:=1) hv;simp only [h,bu,if_false] at this;assumption
theorem En:eG m seen≤m:=aq (bw _ _) (by simp)
def nC (l:List Nat):List (Int×PV):=l.zipIdx.map fun e=>((e.1:Int),PV.int (e.2:Nat))
theorem El (l:List Nat):(nC l).map (·.1)=l.map fun u:Nat=>(u:Int):=by
 delta nC;rw [cw];obtain this: ∀n,qd ((fun x:Int×PV=>x.1)∘fun e:Nat×Nat=>((e.1:Int),PV.int (e.2:Nat))) (l.zipIdx n)=l.map fun u:Nat=>(u:Int):=by
  intro n;induction l generalizing n with
  |nil=>rfl
  |cons a l ih=>rw [pf,bg,bg,ih];rfl
 exact this 0
theorem rX:(nC l).any (fun x=>decide (x.1=(v:Int)))=l.contains v:=by
 have:(nC l).any (fun x=>decide (x.1=(v:Int)))=((nC l).map (·.1)).any fun x=>decide (x=(v:Int)):=by rw [o5] at ⊢;rfl
 rw [this,El,o5];clear this;induction l with
 |nil=>rfl
 |cons a l ih=>
  rw [on,oz];obtain e:((fun x:Int=>decide (x=(v:Int)))∘fun u:Nat=>(u:Int)) a=(v==a):=by
   show decide ((a:Int)=(v:Int))=(v==a);by_cases q:a=v
   ·subst q;simp
   ·obtain this: ¬(a:Int)=(v:Int):=by exact aQ 0x377709c1dd041 0x2008420 [_,_] q
    simp [this,l6 q]
  rw [e]
  congr 1
theorem Hg (h:l.contains v=false):pY (nC l) (v:Int) (.int (l.length:Nat))=nC (l++[v]):=by delta pY;rw [rX,h,if_neg (by decide)];delta nC;rw [s8,bv];simp
theorem Ev (h:l.contains v=false):vA (nC (l++[v])) (v:Int)=nC l:=by
 delta vA;obtain e:nC (l++[v])=nC l++[((v:Int), .int (l.length:Nat))]:=by delta nC;rw [s8,bv];simp
 rw [e,gz];obtain e2:(nC l).filter (fun x=>decide (x.1≠(v:Int)))=nC l:=by rw [oj];intro x hx;have:=jc.mp (rX.trans h) x hx;simpa using this
 rw [e2];simp
theorem vT (h:l.contains v=true): ∃i,i<l.length∧(nC l).lookup (v:Int)=some (.int (i:Nat)):=by
 delta nC;obtain this: ∀n, ∃i,n≤i∧i<n+l.length∧((l.zipIdx n).map fun e:Nat×Nat=>((e.1:Int),PV.int (e.2:Nat))).lookup (v:Int)=some (.int (i:Nat)):=by
  intro n;induction l generalizing n with
  |nil=>cases h
  |cons a l ih=>
   rw [pf,bg,c7];by_cases q:a=v
   ·subst q;exact ⟨n,ay _,by simp,by simp⟩
   ·obtain e:((v:Int)==(a:Int))=false:=by rw [beq_eq_false_iff_ne];exact aQ 0x377709c1dd022 0x2100401 [_,_] q
    rw [e];rw [oz] at h;obtain e2:(v==a)=false:=by rw [beq_eq_false_iff_ne];exact l6 (by assumption)
    rw [e2,mo] at h;refine nN (ih h (n+1)) fun i h1 h2 h3=>?_;exact ⟨i,by exact de (by assumption),by simp;exact aQ 0x9a94140c419a86a0a041 33 [_,_,_] h2,h3⟩
 refine nN (this 0) fun i _ h2 h3=>?_;exact ⟨i,by simp_all,h3⟩
theorem Fk (h:l.contains v=false):(nC l).lookup (v:Int)=none:=by rw [jk];intro x hx;have:=jc.mp (rX.trans h) x hx;simp at this ⊢;exact l6 (by assumption)
abbrev Px (i:Nat):PO:= .raw (Ax "method-wrapper" "list_iterator.__next__") [.ref i]
abbrev E3:=Nat×Nat×Nat
def gF (rx:List E3):List Nat:=rx.reverse.map (·.1)
structure DF (w:aw) (b N m:Nat) (H:List PO) (seen:Nat→Bool) (rx:List E3):Prop where
 stk:H[N]? =some (.list (pn (gF rx)))
 its:H[N+1]? =some (.list (rx.reverse.map fun e=> .ref (e.2.2+1)))
 sn: ∃S,H[N+2]? =some (pN w S (eG m seen))∧ ∀k:Nat,S (k:Int)=seen k
 dct: ∃ep,H[N+3]? =some (dP w (nC (gF rx)) ep)
 ent: ∀e∈rx,H[e.2.2]? =some (.raw (yI e.2.1) [.ref (b+4*e.1+6)])∧H[e.2.2+1]? =some (Px e.2.2)∧N+4≤e.2.2∧e.1<m
 ord:rx.Pairwise fun a b=>b.2.2+1<a.2.2
 nod:(rx.map (·.1)).Nodup
section
variable {w:aw} {b N m:Nat} {H:List PO} {seen:Nat→Bool} {rx:List E3}
theorem DF.big (x:DF w b N m H seen rx):N+3<H.length:=by obtain ⟨ep,h⟩:=x.dct;exact (af.mp h).1
theorem fT {e:E3}:gF (e::rx)=gF rx++[e.1]:=by simp [gF]
theorem lE:(gF rx).length=rx.length:=by simp [gF]
theorem nP {v:Nat}:(gF rx).contains v=rx.any fun e=>e.1==v:=by delta gF;rw [fa];simp
theorem DF.step {u k ii:Nat} {r:List E3} (x:DF w b N m H seen ((u,k,ii)::r)):DF w b N m (H.set ii (.raw (yI (k+1)) [.ref (b+4*u+6)])) seen ((u,k+1,ii)::r):=by
 walk_at "T w,b,N,m,H,seen,u,k,ii,r x";refine xA (x.ent _ (.head _)) fun h1 h2 h3 h4=>?_;dsimp only at h1 h2 h3 h4;refine aE (x.sn) fun S g1 g2=>?_;obtain ⟨ep,g3⟩:=x.dct;have e1:gF ((u,k+1,ii)::r)=gF ((u,k,ii)::r):=by rw [fT,fT]
 have ho:=c5.mp x.ord;refine ⟨by rw [e1];exact gn (by exact aQ 0x3741064151102 1025 [_,_] h3) x.stk,?_,⟨S,gn (by exact aQ 0x1ba28481064151102 1025 [_,_] h3) g1,g2⟩,⟨ep,by rw [e1];exact gn (by exact gm (by assumption)) g3⟩,?_,?_,x.nod⟩
 ·have:=gn (o:= .raw (yI (k+1)) [.ref (b+4*u+6)]) (d:=ii) (by exact aQ 0x1ba28281064151102 1025 [_,_] h3) x.its
  rw [this];simp
 ·intro e he
  rcases ar.mp he with rfl|he
  ·exact ⟨gs (af.mp h1).1,gn (show ii≠ii+1 by exact (ce _).symm) h2,h3,h4⟩
  ·refine xA (x.ent e (.tail _ he)) fun q1 q2 q3 q4=>?_
   have:=ho.1 e he;dsimp only at this;exact ⟨gn (by exact aQ 0x3741066150502 1025 [_,_] this) q1,gn (by exact gm (by assumption)) q2,q3,q4⟩
 ·exact c5.mpr ⟨fun e he=>ho.1 e he,ho.2⟩
theorem DF.pop {u k ii ep:Nat} {r:List E3} (x:DF w b N m H seen ((u,k,ii)::r)):
  DF w b N m ((((H.set ii .junk).set N (.list (pn (gF r)))).set (N+3) (dP w (nC (gF r)) ep)).set (N+1) (.list (r.reverse.map fun e=> .ref (e.2.2+1)))) seen r:=by
 refine xA (x.ent _ (.head _)) fun h1 h2 h3 h4=>?_;dsimp only at h1 h2 h3 h4;refine aE (x.sn) fun S g1 g2=>?_;have hb:=x.big;have ho:=c5.mp x.ord;refine ⟨gn (by exact ce _) (gn (by exact gm (fw (by decide))) (gs (by rw [f0];exact aQ 0x131066250d01 33 [_,_] hb))),gs (by simp;exact aQ 0x989414066250d01 33 [_,_] hb),⟨S,gn (by exact (ce _).symm) (gn (by exact ce _) (gn (by exact ez (fw (by decide))) (gn (by exact aQ 0x1ba28481064151102 1025 [_,_] h3) g1))),g2⟩,⟨ep,gn (by exact fun e=>absurd (kg e) (by decide)) (gs (by simp;assumption))⟩,?_,ho.2,?_⟩
 ·intro e he
  refine xA (x.ent e (.tail _ he)) fun q1 q2 q3 q4=>?_;have:=ho.1 e he;dsimp only at this;exact ⟨gn (by exact aQ 0x1ba09414064251101 1056 [_,_] q3) (gn (by exact ez (by assumption)) (gn (by exact aQ 0x3741064251101 1056 [_,_] q3) (gn (by exact aQ 0x3741066150502 1025 [_,_] this) q1))),gn (by exact aQ 0xdd141409414064251101 1056 [_,_] q3) (gn (by exact aQ 0xdd141409434064251101 1056 [_,_] q3) (gn (by exact aQ 0x1ba28281064251101 1056 [_,_] q3) (gn (by exact gm (by assumption)) q2))),q3,q4⟩
 ·have:=x.nod
  rw [bg,eg] at this;exact this.2
theorem DF.push {v ep:Nat} {S':Int→Bool} (x:DF w b N m H seen rx) (hv:v<m) (hs:seen v=false) (hn:(gF rx).contains v=false) (hS: ∀k:Nat,S' (k:Int)=upd seen v true k):
  DF w b N m ((((((H.set (N+2) (pN w S' (eG m (upd seen v true))))++[PO.raw (yI 0) [PV.ref (b+4*v+6)]]++[Px H.length]).set (N+1) (.list (rx.reverse.map (fun e:E3=>PV.ref (e.2.2+1))++[PV.ref (H.length+1)]))).set (N+3) (dP w (nC (gF rx++[v])) ep)).set N (.list (pn (gF rx++[v]))))) (upd seen v true) ((v,0,H.length)::rx):=by
 walk_at "T w,b,N,m,H,seen,rx,v,ep,S' x hv hs hn hS";have hb:=x.big;have e1:gF ((v,0,H.length)::rx)=gF rx++[v]:=fT;obtain hl:((H.set (N+2) (pN w S' (eG m (upd seen v true))))++[PO.raw (yI 0) [PV.ref (b+4*v+6)]]++[Px H.length]).length=H.length+2:=by simp
 refine ⟨by rw [e1];exact gs (by simp;exact aQ 0x9a8481066250d01 33 [_,_] hb),?_,⟨S',gn (by exact ez (fw (by decide))) (gn (by exact ce _) (gn (by exact (ce _).symm) (old_get (old_get (gs (by exact de (by assumption))))))),hS⟩,⟨ep,by rw [e1];exact gn (by exact ez (fw (by decide))) (gs (by simp;exact c6 (by assumption) (dw _ _)))⟩,?_,?_,?_⟩
 ·rw [gn (by exact (ce _).symm) (gn (by exact fun e=>absurd (kg e) (by decide)) (gs (by rw [hl];exact aQ 0x4d42409414066250d01 33 [_,_] hb)))]
  simp
 ·intro e he
  rcases ar.mp he with rfl|he
  ·refine ⟨gn (show N≠H.length by exact aQ 0x3741066250d01 1056 [_,_] hb) (gn (show N+3≠H.length by exact ez (by assumption)) (gn (show N+1≠H.length by exact aQ 0x1ba09414066250d01 1056 [_,_] hb) (old_get ?_))),gn (show N≠H.length+1 by exact aQ 0x1ba28281066250d01 1056 [_,_] hb) (gn (show N+3≠H.length+1 by exact aQ 0xdd141409434066250d01 1056 [_,_] hb) (gn (show N+1≠H.length+1 by exact aQ 0xdd141409414066250d01 1056 [_,_] hb) ?_)),by dsimp only;assumption,hv⟩
   ·show ((H.set _ _)++[_])[H.length]? =_
    rw [show H.length=(H.set (N+2) (pN w S' (eG m (upd seen v true)))).length by simp,g0];rfl
   ·show ((H.set _ _)++[_]++[_])[H.length+1]? =_
    rw [show H.length+1=((H.set (N+2) (pN w S' (eG m (upd seen v true))))++[PO.raw (yI 0) [PV.ref (b+4*v+6)]]).length by simp,g0];rfl
  ·refine xA (x.ent e he) fun q1 q2 q3 q4=>?_
   exact ⟨gn (by exact aQ 0x3741064251101 1056 [_,_] q3) (gn (by exact ez (by assumption)) (gn (by exact aQ 0x1ba09414064251101 1056 [_,_] q3) (old_get (old_get (gn (by exact aQ 0x1ba09424064251101 1056 [_,_] q3) q1))))),gn (by exact aQ 0x1ba28281064251101 1056 [_,_] q3) (gn (by exact aQ 0xdd141409434064251101 1056 [_,_] q3) (gn (by exact aQ 0xdd141409414064251101 1056 [_,_] q3) (old_get (old_get (gn (by exact aQ 0xdd141409424064251101 1056 [_,_] q3) q2))))),q3,q4⟩
 ·refine c5.mpr ⟨fun e he=>?_,x.ord⟩
  have:=(af.mp (x.ent e he).2.1).1;exact this
 ·rw [bg,eg]
  refine ⟨fun hm=>?_,x.nod⟩;rw [nP] at hn;refine aE (ap.mp hm) fun e he q=>?_;have:=jc.mp hn e he;simp [q] at this
end
end
section
theorem tV {s:Nat→List Nat} {m:Nat} {seen:Nat→Bool} (h: ∀k<m,(s k).length≤100):kH s m seen≤m*102:=by
 induction m with
 |zero=>exact ay _
 |succ m ih=>unfold kH at*;rw [i8,bv,m7];have:=ih fun k hk=>h k (by exact jy (by assumption));have h2:=h m (by exact ch _);simp only [bg,gi,ki,List.sum_nil];split<;>(lia)
def Ms (s:Nat→List Nat) (l:List Nat):Option (Nat→Bool)→Bool
 |none=>true
 |some seen'=>cV s 1000 l seen'
theorem wT:isSubtype (.type "StopIteration") (.type "BaseException")=pure true:=by rw [isSubtype_type];kernel_rfl
theorem qB:isSubtype (.type ((pe "StopIteration").elim "type" fun x=>x.metatype)) (.type "tuple")=pure false:=by rw [show ((pe "StopIteration").elim "type" fun x=>x.metatype)="type" from by kernel_rfl,isSubtype_type];kernel_rfl
theorem zU:isSubtype (.type "StopIteration") (.type "StopIteration")=pure true:=by rw [isSubtype_type];kernel_rfl
theorem fK: ∀{m:Nat} {l:List Nat},l.Nodup→(∀x∈l,x<m)→l.length≤m:=by
 intro zi;induction zi with
 |zero=>
  intro l _ h;cases l with
  |nil=>exact ay _
  |cons a l=>have:=h a (.head _);exact absurd (by assumption) (ko _)
 |succ m ih=>
  intro l hn h;obtain h1:(l.erase m).Nodup:=hn.erase m;obtain h2: ∀x∈l.erase m,x<m:=fun x hx=>by have:=(List.Nodup.mem_erase_iff hn).mp hx;have:=h x this.2;lia
  obtain h3:=ih h1 h2;obtain h4:l.length≤(l.erase m).length+1:=by rw [List.length_erase];split<;>lia
  exact aW 0x49414083210e4a0a061 1057 [_,_,_] h3 h4
abbrev e2 (e:E3):Nat×Nat:=(e.1,e.2.1)
section
variable {C:Cx} {st:St} {K:PV→St→Prop} {n:Nat}
inductive Qw (w:aw) (s:Nat→List Nat) (h0:List PO) (b N m:Nat) (i:Nat) (s':St):Prop
 |mk (hi:i≤m) (q:Option PV) (H:List PO) (seen:Nat→Bool) (e:s'=⟨[some (.ref (b+1)),some (.ref (b+2)),some (.ref N),some (.ref (N+1)),some (.ref (N+2)),some (.ref (N+3)),q],H⟩) (p: ∃J,H=h0++J) (d:DF w b N m H seen []) (f:cV s 1000 ((am m).drop i) seen=cV s 1000 (am m) (fun _=>false)):Qw w s h0 b N m i s'
inductive Qj (w:aw) (s:Nat→List Nat) (h0:List PO) (b N m:Nat) (res:Option (Nat→Bool)) (f:Nat) (s':St):Prop
 |mk (v:Nat) (H:List PO) (seen:Nat→Bool) (rx:List E3) (e:s'=⟨[some (.ref (b+1)),some (.ref (b+2)),some (.ref N),some (.ref (N+1)),some (.ref (N+2)),some (.ref (N+3)),some (.int (v:Nat))],H⟩) (p: ∃J,H=h0++J) (d:DF w b N m H seen rx) (hv:v<m) (hvis:gI s f v seen (rx.map e2)=res)
   (hM:kH s m seen+fX s (rx.map e2)<f) (hsee: ∀e∈rx,seen e.1=true):Qj w s h0 b N m res f s'
inductive Qy (w:aw) (s:Nat→List Nat) (h0:List PO) (b N m:Nat) (res:Option (Nat→Bool)) (f:Nat) (fl:Fl) (s':St):Prop
 |mk (e0:fl= .next) (q:Option PV) (H:List PO) (seen':Nat→Bool) (rx':List E3) (e:s'=⟨[some (.ref (b+1)),some (.ref (b+2)),some (.ref N),some (.ref (N+1)),some (.ref (N+2)),some (.ref (N+3)),q],H⟩) (p: ∃J,H=h0++J) (d:DF w b N m H seen' rx') (hpp:(match dN s (rx'.map e2) with|none=>some seen'|some (v',rs')=>gI s f v' seen' rs')=res)
   (hM:kH s m seen'+fX s (rx'.map e2)≤f) (hsee: ∀e∈rx',seen' e.1=true):Qy w s h0 b N m res f fl s'
inductive Qp (w:aw) (s:Nat→List Nat) (h0:List PO) (b N m:Nat) (seen':Nat→Bool) (pp:Option (Nat×List (Nat×Nat))) (rx':List E3) (j:Nat) (s':St):Prop
 |mk (q:Option PV) (H:List PO) (rx2:List E3) (hj:rx2.length=j) (e:s'=⟨[some (.ref (b+1)),some (.ref (b+2)),some (.ref N),some (.ref (N+1)),some (.ref (N+2)),some (.ref (N+3)),q],H⟩) (p: ∃J,H=h0++J) (d:DF w b N m H seen' rx2) (hpd:dN s (rx2.map e2)=pp) (hle:fX s (rx2.map e2)≤fX s (rx'.map e2)) (hsee: ∀e∈rx2,seen' e.1=true):Qp w s h0 b N m seen' pp rx' j s'
theorem Dt {H0:List PO} {rd:PV} {np nf:Int} {m:Nat} {c:Nat→Int} {s:Nat→List Nat} (S:bS C (n+1)) (Y:KnC C.K) (x:Sr C.w H0 st.h rd np nf m c s) (hm:m≤4) (hzs: ∀k<m,(s k).length≤100) (hs: ∀k<m, ∀j∈s k,j<m)
  (h1:cV s 1000 (am m) (fun _=>false)=false→ ∀J,K .none ⟨st.v,st.h++J⟩)
  (h2:cV s 1000 (am m) (fun _=>false)=true→ ∀J t l,(st.h++J)[t]? =some (.list l)→l≠[]→l.length≤big→K (.ref t) ⟨st.v,st.h++J⟩):PC C (.ref 192) [.ref (H0.length+1)] st K:=by
 walk_at "T C,st,K,n,H0,rd,np,nf,m,c,s S Y x hm hzs hs h1 h2";refine jO S ["self"] ["n2i","stack","itstack","seen","node2stacki","node"] Y.m_cycle.2.2.2 rfl (fun _ _ _ _ _ _ _ _=>iK fun v=>rfl) (by decide) (by decide) ?_;walk_at "I zz, SD";have hl:=x.len;have ho42:=x.n2;walk_at "E ho42 : ep, hn2";refine s_cons ?_;refine s_assign ?_ (by rfl) (by rfl) (by rfl);ext;refine gK Y (by decide) x.x x.d rfl (fun u e=>by cases e) ?_;ext;refine ⟨by decide,?_⟩;ext;refine ⟨by decide,?_⟩;ext;refine Kf ?_;ext;have ho55: ∃N,N=st.h.length:=⟨_,rfl⟩;walk_at "E ho55 : N, hN";have ho57: ∃H1,H1=st.h++[PO.list []]++[PO.list []]++[pN C.w (fun _=>false) 0]++[dP C.w [] 0]:=⟨_,rfl⟩;walk_at "E ho57 : H1, hH1";have hl1:(st.h++[PO.list []]).length=N+1:=by simp [hN]
 have hl2:(st.h++[PO.list []]++[PO.list []]).length=N+2:=by simp [hN]
 have hl3:(st.h++[PO.list []]++[PO.list []]++[pN C.w (fun _=>false) 0]).length=N+3:=by simp [hN]
 let V (q:Option PV):List (Option PV):=[some (.ref (H0.length+1)),some (.ref (H0.length+2)),some (.ref N),some (.ref (N+1)),some (.ref (N+2)),some (.ref (N+3)),q];have nS0: ∀m,eG m (fun _=>false)=0:=fun m=>by delta eG;induction m with|zero=>rfl|succ m ih=>rw [i8,gz,aj,ih];rfl
 have d1:DF C.w H0.length N m H1 (fun _=>false) []:=by
  rw [hH1];refine ⟨?_,?_,⟨fun _=>false,?_,fun _=>rfl⟩,⟨0,?_⟩,(fun e he=>by cases he), .nil, .nil⟩
  ·rw [hN];exact old_get (old_get (old_get g0))
  ·rw [←hl1];exact old_get (old_get g0)
  ·rw [←hl2,nS0];exact old_get g0
  ·rw [←hl3];exact g0
 have p1: ∃J,H1=st.h++J:=⟨[PO.list []]++[PO.list []]++[pN C.w (fun _=>false) 0]++[dP C.w [] 0],by rw [hH1];simp⟩;refine kM (P:=fun s=>W1 _ _ s _) (v:=[some (.ref (H0.length+1)),some (.ref (H0.length+2)),some (.ref st.h.length),some (.ref (st.h++[PO.list []]).length),some (.ref (st.h++[PO.list []]++[PO.list []]).length),some (.ref (st.h++[PO.list []]++[PO.list []]++[pN C.w (fun _=>false) 0]).length),none]) hH1.symm ?_;rw [hl1,hl2,hl3, ←hN];show W1 _ _ ⟨V none,H1⟩ _;clear hH1 hl1 hl2 hl3;have hn2': ∀H,(∃J,H=st.h++J)→H[H0.length+2]? =some (dP C.w (dT H0.length m) ep):=fun H ⟨J,e⟩=>by rw [e];exact old_get hn2
 have hfix: ∀H,(∃J,H=st.h++J)→ ∀{k},k<m→H[H0.length+4*k+6]? =some (.list (pn (s k))):=fun H ⟨J,e⟩ k hk=>by rw [e];exact old_get (x.sl hk)
 have kvg: ∀{i:Nat},i<m→(dT H0.length m)[i]? =some ((i:Int), .ref (H0.length+4*i+5)):=fun {i} hi=>by delta dT;rw [b8,ka hi];rfl
 refine hV S.qf (cT S.qf ?_);ext;refine ⟨_,Ik S.qf (hn2' H1 p1),Qw C.w s st.h H0.length N m,m,⟨cz _,none,H1,_,rfl,p1,d1,rfl⟩,?_,?_,?_,?_⟩
 ·rintro i _ q ⟨hi,q',H,seen,rfl,p,d,hf⟩ hq
  have ho83:=mG hq;walk_at "E ho83 : g1 g2";refine aE (f4.mp g2) fun z hz _=>?_;have:=(af.mp hz).1;rw [nU] at this;exact this
 ·intro i zs q zI hq
  refine Jq fun κ1 kk1=>?_;obtain ⟨hi,q',H,seen,rfl,p,d,hf⟩:=zI;have ho91:=mG hq;walk_at "E ho91 : g1 g2";refine aE (f4.mp g2) fun z hz hzq=>?_;have him:=(af.mp hz).1;rw [nU] at him;rw [kvg him] at hz;cases hz;dsimp only at hzq;subst hzq;have hdr:(am m).drop i=i::(am m).drop (i+1):=by rw [ck (by simpa using him)];simp
  rw [hdr] at hf;refine aE (d.sn) fun Sf hS1 hS2=>?_;ext;refine yW hS1 ?_;rw [hS2 i];ext;refine aY (fun hb=>?_) (fun hb=>?_)
  ·refine s_cons ?_
   ext;refine .inl ⟨him,some (.int i),H,seen,rfl,p,d,?_⟩;rw [←hf];show _=cV s 1000 (i::_) seen
   conv=>rhs;rw [nR]
   rw [if_pos hb]
  ·refine s_nil ?_
   ext;have hf2:Ms s ((am m).drop (i+1)) (gI s 1000 i seen [])=cV s 1000 (am m) (fun _=>false):=by
    rw [←hf];show _=cV s 1000 (i::_) seen
    conv=>rhs;rw [nR]
    rw [if_neg (by rw [hb];decide)];cases gI s 1000 i seen []<;>rfl
   generalize hres:gI s 1000 i seen []=res at hf2;have hM0:kH s m seen<1000:=co (tV hzs) (by lia);refine iG S.qf (Qj C.w s st.h H0.length N m res) 1000 ?_ ?_
   ·exact ⟨i,H,seen,[],rfl,p,d,him,hres,by simpa [fX] using hM0,fun e he=>by cases he⟩
   intro f zs zI;refine Ox fun κ2 kk2=>?_;obtain ⟨v,H,seen,rx,rfl,p,d,hv,hvis,hM,hsee⟩:=zI;refine cY ?_;refine e_bool ?_;refine pt_bool ?_;refine ite_tt ?_;cases f with
   |zero=>exact absurd (by assumption) (ko _)
   |succ f=>
   refine aE (d.sn) fun Sf hS1 hS2=>?_;obtain ⟨ep2,hdct⟩:=d.dct;rw [sL] at hvis;refine s_cons (W1.mono (K:=fun fl st1=>Qy C.w s st.h H0.length N m res f fl st1∨(∃p,fl= .ret p∧K p ⟨st.v,st1.h⟩)) ?_ ?_)
   ·refine Rv fun κ4 kk4=>?_
    refine s_if ?_;ext;refine yW hS1 ?_;rw [hS2 v];ext;have hany:(rx.map e2).any (fun e=>e.1==v)=(gF rx).contains v:=by rw [nP,o5];rfl
    refine aY (fun hb2=>?_) (fun hb2=>?_)
    ·rw [if_pos hb2,hany] at hvis
     refine s_cons ?_;refine s_if ?_;ext;refine Ep hdct ?_;cases hcn:(gF rx).contains v with
     |true=>
      rw [hcn,if_pos rfl] at hvis;refine aE (vT hcn) fun ix hix hlk=>?_;rw [hlk];ext;refine ite_tt ?_;refine s_cons ?_;ext;refine rQ hdct hlk ?_;ext;have hnl:(gF rx).length≤m:=by
       rw [lE];have:=fK d.nod fun u hu=>by refine aE (ap.mp hu) fun e he qz2=>?_;subst qz2;exact (d.ent e he).2.2.2
       simpa using this
      refine fZ (lo:=some (ix:Int)) (hi:=none) rfl rfl d.stk (by rw [bE];exact aC (by exact aW 0x2430d4090c88814841 1057 [_,_] hm hnl)) ?_;ext;refine ⟨(show 1≤100000 by decide),?_⟩;have hpl:bH (pn (gF rx)) (some (ix:Int)) none=(pn (gF rx)).drop ix:=gR _ _;refine iH (xs:=bH (pn (gF rx)) (some (ix:Int)) none) (ys:=[.int v]) (old_get g0) g0 (by rw [hpl,f8,bE];exact aC (by simp;exact aW 0x928430d3e90c8881c861 1057 [_,_,_] hm hnl)) ?_;refine kk4 _ _ ?_;refine .inr ⟨_,rfl,?_⟩;rw [←hvis] at hf2;obtain ⟨J,rfl⟩:=p;have eA:(st.h++J)++[PO.list (bH (pn (gF rx)) (some (ix:Int)) none)]++[PO.list [PV.int v]]++[PO.list (bH (pn (gF rx)) (some (ix:Int)) none++[PV.int v])]=st.h++(J++[PO.list (bH (pn (gF rx)) (some (ix:Int)) none)]++[PO.list [PV.int v]]++[PO.list (bH (pn (gF rx)) (some (ix:Int)) none++[PV.int v])]):=by simp only [aa]
      exact kM (P:=K _) eA (h2 hf2.symm _ _ (bH (pn (gF rx)) (some (ix:Int)) none++[.int v]) (by rw [←eA];exact g0) (by simp) (by rw [hpl,aj,f8,bE];exact aC (by simp;exact aW 0x928430d3e90c8881c861 1057 [_,_,_] hm hnl)))
     |false=>rw [hcn,if_neg (by decide)] at hvis;rw [Fk hcn];ext;refine ite_ff ?_;refine s_nil ?_;ext;refine .inl ⟨rfl,some (.int v),H,seen,rx,rfl,p,d,hvis,by exact ik (by assumption),hsee⟩
    ·rw [if_neg (by rw [hb2];decide)] at hvis
     have hcn:(gF rx).contains v=false:=by
      cases q:(gF rx).contains v with
      |false=>rfl
      |true=>rw [nP,j6] at q;obtain ⟨e,he,q⟩:=q;have:=hsee e he;rw [show e.1=v by simpa using q,hb2] at this;cases this
     have hb5:5<scanBound:=by decide
     have hns:=En (m:=m) (seen:=seen);have hbig:=d.big;refine s_cons ?_;ext;walk_at "d";ext;refine ⟨Bm hS1,?_⟩;ext;refine Cu hS1 (by exact hW 0x13128280c8881cc4544861 33825 [_,_,_] hm hb5 hns) ?_;have ee:(if Sf (v:Int)=true then eG m seen else eG m seen+1)=eG m (upd seen v true):=by rw [hS2,hb2,if_neg (by decide),xC hv hb2]
     rw [ee];have hS': ∀k:Nat,(fun j:Int=>Sf j||decide (j=(v:Int))) (k:Int)=upd seen v true k:=by
      intro k
      try dsimp only
      rw [hS2];by_cases q:k=v
      ·subst q;rw [bW];simp
      ·rw [bQ q]
       have: ¬((k:Int)=(v:Int)):=by exact aQ 0x377709c1dd041 0x2008420 [_,_] q
       simp [this]
     ext;walk_at "k";ext;refine ⟨⟨_,gn (by exact ce _) d.its,rfl⟩,?_⟩;ext;have pa: ∃J,H.set (N+2) (pN C.w (fun j:Int=>Sf j||decide (j=(v:Int))) (eG m (upd seen v true)))=st.h++J:=dF p (by simp_all);have hia:=gn (o:=pN C.w (fun j:Int=>Sf j||decide (j=(v:Int))) (eG m (upd seen v true))) (show N+2≠N+1 by exact ce _) d.its;have hsa:=gn (o:=pN C.w (fun j:Int=>Sf j||decide (j=(v:Int))) (eG m (upd seen v true))) (show N+2≠N by exact gm (fw (by decide))) d.stk;have hda:=gn (o:=pN C.w (fun j:Int=>Sf j||decide (j=(v:Int))) (eG m (upd seen v true))) (show N+2≠N+3 by exact (ce _).symm) hdct;have dpush:=fun ep'=>d.push (S':=fun j:Int=>Sf j||decide (j=(v:Int))) (ep:=ep') hv hb2 hcn hS';have hla:(H.set (N+2) (pN C.w (fun j:Int=>Sf j||decide (j=(v:Int))) (eG m (upd seen v true)))).length=H.length:=f0;obtain ⟨Ha,hHa⟩: ∃Ha,Ha=H.set (N+2) (pN C.w (fun j:Int=>Sf j||decide (j=(v:Int))) (eG m (upd seen v true))):=⟨_,rfl⟩;rw [←hHa] at pa hia hsa hda hla dpush;refine kM (P:=fun s=>PG _ _ _ s _) (v:=V (some (.int v))) hHa.symm ?_;clear hHa;have xa:Sr C.w H0 Ha rd np nf m c s:=by obtain ⟨J,e⟩:=pa;rw [e];exact x.app J
     refine rQ (hn2' _ pa) (gY hv) ?_;refine qJ Y Y.s_succ (xa.ni hv) (xa.dk hv) rfl (fun u e=>by cases e) ?_;ext;refine Lx (hfix _ pa hv) ?_;refine Hn (i:=Ha.length) (k:=0) g0 ?_;ext;have hnl:(gF rx).length≤m:=by
      rw [lE];have:=fK d.nod fun u hu=>by refine aE (ap.mp hu) fun e he qz2=>?_;subst qz2;exact (d.ent e he).2.2.2
      simpa using this
     have hnl2:=hnl;rw [lE] at hnl2;refine eP (old_get (old_get hia)) (by simp;exact aC (by exact aW 0x2430d4090c88814841 1057 [_,_] hm hnl2)) ?_;ext;refine oA (gn (by exact ce _) (old_get (old_get hsa))) (by rw [bE];exact aC (by exact aW 0x2430d4090c88814841 1057 [_,_] hm hnl)) ?_;ext;refine zK (gn (by exact fun e=>absurd (kg e) (by decide)) (old_get (old_get hda))) (by simp [nC];exact aC (by exact aW 0x2430d4090c88814841 1057 [_,_] hm hnl)) ?_;walk_at "I ep'";ext;walk_at "k";ext;refine ⟨⟨_,gn (by exact gm (fw (by decide))) (gn (by exact ce _) (old_get (old_get hsa))),rfl⟩,?_⟩;ext;refine eP (gn (by exact gm (fw (by decide))) (gn (by exact ce _) (old_get (old_get hsa)))) (by rw [bE];exact aC (by exact aW 0x2430d4090c88814841 1057 [_,_] hm hnl)) ?_;ext;refine .inl ⟨rfl,some (.int v),_,upd seen v true,(v,0,H.length)::rx,?_,?_,dpush ep',hvis,?_,?_⟩
     ·refine congrArg (St.mk _) ?_
      have e1:(Ha++[PO.raw (yI 0) [PV.ref (H0.length+4*v+6)]]).length=H.length+1:=by simp [hla]
      have e2:pn (gF rx++[v])=pn (gF rx)++[PV.int v]:=by rw [mS];rfl
      have e3:pY (nC (gF rx)) (v:Int) (.int ((pn (gF rx)).length:Nat))=nC (gF rx++[v]):=by rw [bE];exact Hg hcn
      try dsimp only
      rw [e1,e2,e3,hla];rfl
     ·refine dF (dF (dF (lR (lR pa)) ?_) ?_) ?_<;>simp_all
     ·have:=pR (s:=s) hv hb2
      show _+fX s ((v,0)::rx.map e2)≤_;delta fX at*;simp only [bg,ki];exact aW 0x12229435810a0a0419a82822865a154a12041 0x40100401 [_,_,_,_,_] hM this
     ·intro e he
      rcases ar.mp he with rfl|he
      ·exact bW
      ·by_cases q:e.1=v
       ·rw [q];exact bW
       ·rw [bQ q];exact hsee e he
   ·rintro fl st1 (⟨rfl,q,H,seen',rx',rfl,p,d,hpp,hM,hsee⟩|⟨pv,rfl,hK⟩)
    ·try dsimp only
     generalize hpd:dN s (rx'.map e2)=pp at hpp;have hle:fX s (rx'.map e2)≤fX s (rx'.map e2):=ay _;refine s_cons ?_;refine iG S.qf (Qp C.w s st.h H0.length N m seen' pp rx') rx'.length ⟨q,H,rx',rfl,rfl,p,d,hpd,hle,hsee⟩ ?_
     rintro j _ ⟨q,H,rx2,hj,rfl,p,d,hpd,hle,hsee⟩
     have hnl:(gF rx2).length≤m:=by
      rw [lE];have:=fK d.nod fun u hu=>by refine aE (ap.mp hu) fun e he qz2=>?_;subst qz2;exact (d.ent e he).2.2.2
      simpa using this
     refine cY ?_;ext;refine yL d.stk (by rw [bE];exact aC (by exact aW 0x2430d4090c88814841 1057 [_,_] hm hnl)) ?_;cases rx2 with
     |nil=>show if (false=true) then _ else _;refine ite_ff ?_;refine s_cons ?_;ext;have hpd:none=pp:=hpd;rw [←hpd] at hpp;have hpp:some seen'=res:=hpp;rw [←hpp] at hf2;have hf3:cV s 1000 ((am m).drop (i+1)) seen'=cV s 1000 (am m) (fun _=>false):=hf2;exact .inl ⟨him,q,H,seen',rfl,p,d,hf3⟩
     |cons e r=>
      obtain ⟨u,k,ii⟩:=e;have hne:(!(pn (gF ((u,k,ii)::r))).isEmpty)=true:=by rw [fT];simp [dI]
      rw [hne];refine ite_tt ?_;refine Rx fun κ3 kk3=>?_;refine xA (d.ent _ (.head _)) fun t1 t2 t3 t4=>?_;dsimp only at t1 t2 t3 t4;have hbig:=d.big;refine s_cons ?_;refine Cw (Xn:="StopIteration") (Tn:="StopIteration") (X:=fun s'=>s'=⟨V q,H.set ii .junk⟩∧(s u)[k]? =none) aL SD.hn eZ wT qB zU ?_ ?_ ?_
      ·refine bA ?_
       refine mR aL ?_ (by rfl) (by rfl) (by rfl);refine Iu aL SD.hn ?_ (by rfl);ext;have hil:((((u,k,ii)::r).reverse.map fun e:E3=>PV.ref (e.2.2+1)))=(r.reverse.map fun e:E3=>PV.ref (e.2.2+1))++[PV.ref (ii+1)]:=by simp
       have hits:=d.its;rw [hil] at hits;refine Bl (p:= .ref (ii+1)) hits ⟨by decide,by decide⟩ (by decide) (by simp;exact jP 0xaa82870428 1 [_]) ?_ ?_
       ·have ht:((-1:Int)+((r.reverse.map fun e:E3=>PV.ref (e.2.2+1))++[PV.ref (ii+1)]).length).toNat=r.length:=by simp;lia
        show ((r.reverse.map fun e:E3=>PV.ref (e.2.2+1))++[PV.ref (ii+1)])[((-1:Int)+_).toNat]? =_;rw [ht,bf (by simp)];simp
       refine ⟨ii+1,ii,k,H0.length+4*u+6,pn (s u),rfl,t2,t1,hfix _ p t4,fun pv hpv=>?_,fun hpv=>?_⟩
       ·have ho338:=af.mp hpv
        walk_at "E ho338 : hkl hpe";rw [bE] at hkl;have hpe:pv= .int ((s u)[k]:Nat):=by rw [←hpe];simp [dI]
        subst hpe;have hsk:(s u)[k]? =some (s u)[k]:=ae hkl;have hwm:=hs u t4 _ (cg hkl);generalize (s u)[k]=w at*;have hpp2:dN s ((((u,k,ii):E3)::r).map e2)=some (w,(u,k+1)::r.map e2):=by show dN s ((u,k)::r.map e2)=_;rw [lP];rw [hsk]
        have hless:=kJ hpp2;rw [hpp2] at hpd;rw [←hpd] at hpp;refine bA (iO aL (s_brk ?_));refine kk3 _ _ ?_;show WS _ [] _ _;refine s_nil ?_;refine kk2 _ _ ?_;refine .inl ⟨f,ch f,w,_,seen',(u,k+1,ii)::r,rfl,dF p (by lia),d.step,hwm,hpp,?_,?_⟩
        ·show kH s m seen'+fX s ((u,k+1)::r.map e2)<f
         exact hW 0x98d420c86a206442cca2 33825 [_,_,_,_,_] hM hle hless
        ·walk_at "I e he"
         rcases ar.mp he with rfl|he
         ·exact hsee (u,k,ii) (.head _)
         ·exact hsee e (.tail _ he)
       ·refine ⟨rfl,?_⟩
        rw [bz] at hpv ⊢;rw [bE] at hpv;exact hpv
      ·intro v st1
       exact Fj (SD.kn.blt _ (by decide)) (by first|exact boot_StopIteration|decide+kernel) ⟨rfl,rfl⟩ (by decide) (by rfl) (by decide)
      ·rintro v _ ⟨rfl,hk⟩
       have hstk:=d.stk;rw [fT,mS] at hstk;have ho373:=d.dct;walk_at "E ho373 : ep3, hd3";rw [fT] at hd3;have hun:(gF r).contains u=false:=by have h3:=d.nod;rw [bg,eg] at h3;rw [nP,jc];intro e he q;exact h3.1 (ap.mpr ⟨e,he,by simpa using q⟩)
       refine aE (vT (l:=gF r++[u]) (v:=u) (by simp)) fun ix _ hlk=>?_;have hnr:(gF r).length≤m:=by rw [fT,aj] at hnl;exact de (by assumption)
       have hil:((((u,k,ii)::r).reverse.map fun e:E3=>PV.ref (e.2.2+1)))=(r.reverse.map fun e:E3=>PV.ref (e.2.2+1))++[PV.ref (ii+1)]:=by simp
       have hits:=d.its;rw [hil] at hits;refine s_cons (Nm ?_);ext;walk_at "k";ext;refine ⟨⟨_,gn (by exact aQ 0x3741064151102 1025 [_,_] t3) hstk,rfl⟩,?_⟩;refine Js (xs:=pn (gF r)) (p:= .int u) (gn (by exact aQ 0x3741064151102 1025 [_,_] t3) hstk) (by rw [bE];exact aC (by exact aW 0x12186a04a8280c88814841 1057 [_,_] hm hnr)) ?_;refine ⟨N+3,u,nC (gF r++[u]),ep3,_,rfl,rfl,gn (by exact ez (fw (by decide))) (gn (by exact gm (by assumption)) hd3),by simp [nC];exact aC (by exact aW 0x12186a04a8280c88814841 1057 [_,_] hm hnr),hlk,fun ep'=>?_⟩;rw [Ev hun];ext;walk_at "k";ext;refine ⟨⟨_,gn (by exact fun e=>absurd (kg e) (by decide)) (gn (by exact (ce _).symm) (gn (by exact aQ 0x1ba28281064151102 1025 [_,_] t3) hits)),rfl⟩,?_⟩;have hrl:r.length≤m:=by rw [lE] at hnr;exact hnr
       refine Js (gn (by exact fun e=>absurd (kg e) (by decide)) (gn (by exact (ce _).symm) (gn (by exact aQ 0x1ba28281064151102 1025 [_,_] t3) hits))) (by simp;exact aC (by exact aW 0x12186a04a8280c88814841 1057 [_,_] hm hrl)) ?_;ext;refine .inl ⟨r.length,by rw [←hj];exact ch _,q,_,r,rfl,rfl,?_,d.pop,?_,?_,fun e he=>hsee e (.tail _ he)⟩
       ·refine dF (dF (dF (dF p ?_) ?_) ?_) ?_<;>lia
       ·rw [←hpd]
        show _=dN s ((u,k)::r.map e2)
        conv=>rhs;rw [lP]
        rw [hk]
       ·refine aq ?_ hle
        show fX s (r.map e2)≤fX s ((u,k)::r.map e2);delta fX;simp only [bg,ki];exact ax _ _
    ·refine kk2 _ _ ?_
     refine kk1 _ _ ?_;exact hK
 ·rintro i _ ⟨hi,q',H,seen,rfl,p,d,hf⟩
  exact fun e=>by have q:=(Ll (k:=i) (hn2' H p)).symm.trans e;cases q
 ·rintro i _ ⟨hi,q',H,seen,rfl,p,d,hf⟩ hq
  obtain ⟨g1,g2⟩:=mG hq;have:=k7.mp g2;rw [bz,nU] at this;have:i=m:=by exact aW 0x14106420c822 0x2008021 [_,_] hi this
  subst this;rw [jo (by simp)] at hf;obtain ⟨J,rfl⟩:=p;ext;exact h1 hf.symm J
end
end
section
section
variable {C:Cx} {st:St} {K:PV→St→Prop} {X:St→Prop} {n:Nat}
def dC (m:Nat) (c:Nat→Int):List Nat:=(am m).filter fun k=>c k==0
theorem Ew {z:PV} {cls:ak} {kb:Bool} (S:bS C (n+2)) (Y:KnC C.K)
  (hw: ∀zq:Zs,bS (Fz (aP (aK 29 3)) (aX (aK 29 3)) (aU (aK 29 3)) .none 157 ((["self"]:List Str)++(["cycle"]:List Str)) C zq) (n+1)→XS (Fz (aP (aK 29 3)) (aX (aK 29 3)) (aU (aK 29 3)) .none 157 ((["self"]:List Str)++(["cycle"]:List Str)) C zq) cls kb (aX (aK 29 3)) ⟨[some z,none],st.h⟩ (fun fl st2=>K (iL fl) ⟨st.v,st2.h⟩) fun st2=>X ⟨st.v,st2.h⟩):Oz C cls kb (.ref 157) [z] st K X:=by
 obtain hnd:((["self"]:List Str)++(["cycle"]:List Str)).Nodup:=by decide
 refine Ke ["cycle"] Y.m_prepare.2.2.2 S.room S.hn (fun name qual kV doc pm an cdv ct=>Jh (ns:=["self"]) rfl (fun vs hv=>?_) ⟨hnd,?_,fun L=>?_⟩)
 ·obtain ⟨v,rfl⟩:=Ad hv;rfl
 ·intro x hx
  obtain this:x="self":=by simpa using hx
  subst this;exact .inl (by decide+kernel)
 ·exact hw ⟨name,qual,kV,doc,pm,an,cdv,ct,L⟩ S.fn
theorem wV {H0:List PO} {np nf:Int} {m:Nat} {c:Nat→Int} {s:Nat→List Nat} (S:bS C (n+2)) (Y:KnC C.K) (Z:uZ C.K) (x:Sr C.w H0 st.h .none np nf m c s) (hm:m≤4) (hzs: ∀k<m,(s k).length≤100) (hs: ∀k<m, ∀j∈s k,j<m)
  (h1:cV s 1000 (am m) (fun _=>false)=false→ ∀H' r,Sr C.w H0 H' (.ref r) np nf m c s→H0.length+3+4*m≤r→H'[r]? =some (.list (pn (dC m c)))→K .none ⟨st.v,H'⟩)
  (h2:cV s 1000 (am m) (fun _=>false)=true→ ∀H' r,Sr C.w H0 H' (.ref r) np nf m c s→H0.length+3+4*m≤r→H'[r]? =some (.list (pn (dC m c)))→X ⟨st.v,H'⟩):Oz C (.ref 120) false (.ref 157) [.ref (H0.length+1)] st K X:=by
 walk_at "T C,st,K,X,n,H0,np,nf,m,c,s S Y Z x hm hzs hs h1 h2";refine Ew S Y ?_;walk_at "I zz, SD";have hl:=x.len;obtain ho20:=x.n2;walk_at "E ho20 : ep, hn2";refine bA (iO aL (s_if ?_));ext;refine gK Y (by decide) x.x x.d rfl (fun u e=>by cases e) ?_;ext;refine rY rfl ?_;ext;refine ite_ff ?_;refine s_nil ?_;refine bA (iO aL (s_assignG ?_ (by rfl) (by rfl) (by rfl)));refine bM ["i"] SD S.qf 2 (by kernel_rfl) (cT S.qf ?_);walk_at "d";ext;refine gK Y (by decide) x.x x.d rfl (fun u e=>by cases e) ?_;refine ⟨iJ hn2,?_⟩;refine Gd hn2 ?_;refine ⟨_,Be S.qf g0 (old_get hn2),rfl,(am m).map (fun k:Nat=>PV.ref (H0.length+4*k+5)),fun q=>match q with| .ref a=>if c ((a - H0.length - 5)/ 4)=0 then some (.int ((a - H0.length - 5)/ 4:Nat)) else none|_=>none,by simp;exact aC (by exact aq (by assumption) (ax _ _)),?_,?_,?_⟩
 ·intro k t
  refine (Mg (old_get (old_get hn2))).trans ?_;delta dT;rw [b8,b8,Option.map_map];rfl
 ·walk_at "I L', SB QB q,acc hq"
  obtain ho43:=ap.mp hq;walk_at "E ho43 : k, hk qz2";subst qz2;have hk:=bj.mp hk;have x1:=(x.app [PO.raw zD [PV.ref (H0.length+2)]]).app [PO.list acc];have ek:(H0.length+4*k+5 - H0.length - 5)/ 4=k:=Qn;ext;refine qJ Y Y.s_npred (x1.ni hk) (x1.dk hk) rfl (fun u e=>by cases e) ?_;ext;refine aY (fun hb=>?_) (fun hb=>?_)
  ·have h0:c k=0:=by simpa using hb
   ext;refine qJ Y Y.s_node (x1.ni hk) (x1.dk hk) rfl (fun u e=>by cases e) ?_;refine ⟨?_,trivial,cU.now fun j w=>aF rfl⟩
   try dsimp only
   rw [ek,if_pos h0]
  ·have h0:c k≠0:=by simpa using hb
   refine ⟨?_,cU.now fun j w=>aF rfl⟩
   try dsimp only
   rw [ek,if_neg h0]
 obtain ef:((am m).map (fun k:Nat=>PV.ref (H0.length+4*k+5))).filterMap (fun q=>match q with| .ref a=>if c ((a - H0.length - 5)/ 4)=0 then some (.int ((a - H0.length - 5)/ 4:Nat)) else none|_=>none)=pn (dC m c):=by
  rw [mf,dI];delta dC;induction (am m) with
  |nil=>rfl
  |cons a l ih=>
   obtain ek:(H0.length+4*a+5 - H0.length - 5)/ 4=a:=Qn;rw [ge,c9,ih];dsimp only [Function.comp];rw [ek];by_cases h0:c a=0
   ·rw [if_pos h0,if_pos (by simpa using h0)];rfl
   ·rw [if_neg h0,if_neg (by simpa using h0)]
 rw [ef];have x1:=(x.app [PO.raw zD [PV.ref (H0.length+2)]]).app [PO.list (pn (dC m c))];obtain hr1:(st.h++[PO.raw zD [PV.ref (H0.length+2)]]++[PO.list (pn (dC m c))])[(st.h++[PO.raw zD [PV.ref (H0.length+2)]]).length]? =some (.list (pn (dC m c))):=g0;have hr0:(st.h++[PO.raw zD [PV.ref (H0.length+2)]]).length=st.h.length+1:=by simp
 refine pas_cons ?_;ext;refine Dh (q:= .ref (st.h++[PO.raw zD [PV.ref (H0.length+2)]]).length) Y (by decide) x1.x x1.d (by decide) rfl ?_;refine pas_nil ?_;have x2:=x1.setD (.ref (st.h++[PO.raw zD [PV.ref (H0.length+2)]]).length) np nf;have hr2:=gn (d:=H0.length) (o:= .raw (sR fU) [.ref (H0.length+2), .ref (st.h++[PO.raw zD [PV.ref (H0.length+2)]]).length, .int np, .int nf]) (by exact aW 0xdd0419114480d434068a0a082 0x108020 [_,_,_,_] hl hr0) hr1;obtain ho86: ∃H2,H2=(st.h++[PO.raw zD [PV.ref (H0.length+2)]]++[PO.list (pn (dC m c))]).set H0.length (.raw (sR fU) [.ref (H0.length+2), .ref (st.h++[PO.raw zD [PV.ref (H0.length+2)]]).length, .int np, .int nf]):=⟨_,rfl⟩;walk_at "E ho86 : H2, hH2";rw [←hH2] at x2 hr2;refine kM (P:=fun s=>XS _ _ _ _ s _ _) (v:=[some (.ref (H0.length+1)),none]) hH2.symm ?_;clear hH2;generalize (st.h++[PO.raw zD [PV.ref (H0.length+2)]]).length=r at*;refine bA (iO aL (s_assign ?_ (by rfl) (by rfl) (by rfl)));walk_at "d";ext;refine ⟨⟨_,_,_,_,_,rfl,x2.x,x2.d,rfl⟩,?_⟩;refine Dt (n:=n) SD Y x2 hm hzs hs (fun hf J=>?_) (fun hf J t l ht hne hll=>?_)
 ·refine bA (zL aL ?_)
  refine cY ?_;ext;refine eC ?_;refine eC ?_;exact h1 hf _ r (x2.app J) (by exact aW 0x2435120250d0191144809434068a0a083 33793 [_,_,_,_] hl hr0) (old_get hr2)
 ·refine bA (zL aL ?_)
  refine cY ?_;ext;refine yL ht hll ?_;obtain this:(!l.isEmpty)=true:=by cases l with|nil=>exact absurd rfl hne|cons=>rfl
  rw [this];refine ite_tt ?_;refine bA (Eb Z aL S.hn (by rfl) ?_);ext;refine Aa ?_;ext;refine ⟨(show 2≤100000 by decide),?_⟩;exact h2 hf _ r (x2.app J) (by exact aW 0x2435120250d0191144809434068a0a083 33793 [_,_,_,_] hl hr0) (old_get hr2)
end
end
section
variable {H H0:List PO}{R:List (List Nat)}{c:Nat→Int}{lo r:Nat}{p:Nat×Nat}{ps:List PV}{s:Nat→List Nat}{w:aw}
abbrev Pn:=List (Nat×Nat)
def dQ (p:Nat×Nat):Int×Int:=((p.1:Int),(p.2:Int))
def cP (P:Pn) (k:Nat):Int:=((P.filter fun p=>p.1==k).length:Nat)
def sP (P:Pn) (k:Nat):List Nat:=(P.filter fun p=>p.2==k).map (·.1)
def tS (l:List Nat):List Nat:=(am 4).filter fun k=>l.contains k
def pQ (s:Nat→List Nat):Nat→CR→List (List Nat)→Prop
 |0,p,R=>p.2=[]∧R=[]
 |f+1,p,R=>(p.2=[]∧R=[])∨(p.2≠[]∧p.2.Nodup∧(∀k∈p.2,k<4)∧ ∃p' R',nI s p.2 (nK p.1 p.2,[])=some p'∧R=tS p.2::R'∧pQ s f p' R')
theorem wQ (s f p R):pQ s (f+1) p R=((p.2=[]∧R=[])∨(p.2≠[]∧p.2.Nodup∧(∀k∈p.2,k<4)∧ ∃p' R',nI s p.2 (nK p.1 p.2,[])=some p'∧R=tS p.2::R'∧pQ s f p' R')):=rfl
theorem Mh {l:List Nat} {l':List Int} (hn:l.Nodup) (h4: ∀k∈l,k<4) (hp:l'.Perm (l.map fun k:Nat=>(k:Int))) (hs:l'.Pairwise (· ≤ ·)):l'=(tS l).map fun k:Nat=>(k:Int):=by
 obtain e1:(tS l).Perm l:=by delta tS;rw [List.perm_ext_iff_of_nodup (ml _ List.nodup_range) hn];intro a;rw [bp,bj,ei];exact ⟨fun h=>h.2,fun h=>⟨h4 a h,h⟩⟩
 obtain e2:((tS l).map fun k:Nat=>(k:Int)).Pairwise (· ≤ ·):=by
  rw [jw];have:=ml (fun k=>l.contains k) (List.pairwise_lt_range (n:=4));exact this.imp fun {a b} h=>by exact aQ 0xab84e0cc41 33 [_,_] h
 refine List.Perm.eq_of_pairwise (le:=fun a b:Int=>a≤b) (fun a b _ _ h1 h2=>by lia) hs e2 (hp.trans (e1.map _).symm)
theorem Iy {P:Pn} (k:Nat):cP (P++[p]) k=upd (cP P) p.1 (cP P p.1+1) k:=by
 delta cP;rw [gz,aj];by_cases e:k=p.1
 ·subst e;rw [bW];simp
 ·rw [bQ e]
  have:(p.1==k)=false:=by rw [beq_eq_false_iff_ne];exact l6 (by assumption)
  simp [this]
theorem Gn {P:Pn} (k:Nat):sP (P++[p]) k=upd (sP P) p.2 (sP P p.2++[p.1]) k:=by
 delta sP;rw [gz,bv];by_cases e:k=p.2
 ·subst e;rw [bW];simp
 ·rw [bQ e]
  have:(p.2==k)=false:=by rw [beq_eq_false_iff_ne];exact l6 (by assumption)
  simp [this]
theorem Sr.ext {rd:PV} {np nf:Int} {m:Nat} {c':Nat→Int} {s':Nat→List Nat} (x:Sr w H0 H rd np nf m c s) (hc: ∀k<m,c k=c' k) (hs: ∀k<m,s k=s' k):Sr w H0 H rd np nf m c' s':=by
 refine ⟨x.pre,?_⟩;obtain ⟨ep,h⟩:=x.at_;refine ⟨ep,fun j hj=>?_⟩;rw [h j hj];delta cell;by_cases h3:j<3
 ·obtain this:j=0∨j=1∨j=2:=by exact aQ 0x35aa0901a0501a010198d01 0x800100021000210042000400004000040000400 [_] h3
  rcases this with rfl|rfl|rfl<;>rfl
 ·rw [hc ((j - 3)/ 4) (Pp h3 hj),hs ((j - 3)/ 4) (Pp h3 hj)]
inductive RA (lo r:Nat) (H:List PO):List PV→List (List Nat)→Prop
 |nil:RA lo r H [] []
 |cons {i:Nat} {row:List Nat} {ps:List PV} {rows:List (List Nat)}:H[i]? =some (.list (pn row))→lo≤i→i≠r→RA lo r H ps rows→RA lo r H (.ref i::ps) (row::rows)
theorem RA.fx {H':List PO} (x:RA lo r H ps R) (h: ∀i o,lo≤i→i≠r→H[i]? =some o→H'[i]? =some o):RA lo r H' ps R:=by
 induction x with
 |nil=>exact .nil
 |cons a b c _ ih=>exact .cons (h _ _ b c a) b c ih
theorem RA.setL {L:Nat} {o:PO} (x:RA lo r H ps R) (h: ∀e∈ps,e≠ .ref L):RA lo r (H.set L o) ps R:=by
 induction x with
 |nil=>exact .nil
 |@cons i row ps rows a b c _ ih=>refine .cons (gn (fun e=>?_) a) b c (ih fun e he=>h e (.tail _ he));subst e;exact h _ (.head _) rfl
theorem xG {f:Nat} {p:CR} (h:pQ s f p R):p.2.length≤4:=by
 cases f with
 |zero=>rw [h.1];exact cz _
 |succ f=>
  rw [wQ] at h;rcases h with ⟨h,_⟩|⟨_,h1,h2,_⟩
  ·rw [h];exact cz _
  ·exact fK h1 h2
theorem RA.snoc (x:RA lo r H ps R) {i:Nat} {row:List Nat} (h1:H[i]? =some (.list (pn row))) (h2:lo≤i) (h3:i≠r):RA lo r H (ps++[.ref i]) (R++[row]):=by
 induction x with
 |nil=>exact .cons h1 h2 h3 .nil
 |cons a b c _ ih=>exact .cons a b c ih
theorem RA.length (x:RA lo r H ps R):ps.length=R.length:=by
 induction x with
 |nil=>rfl
 |cons _ _ _ _ ih=>simp [ih]
theorem RA.deep (x:RA lo r H ps R):DeepAll H ps (R.map fun l=> .list (l.map fun k:Nat=> .int k)):=by
 induction x with
 |nil=>exact .nil
 |cons a _ _ _ ih=>exact .cons (.list a (dM H _)) ih
theorem Bg {H:List PO} {q:PV} {a b:Int} (h:dX H q (.tuple [.int a, .int b])): ∃i,q= .ref i∧H[i]? =some (.tuple [.int a, .int b]):=by
 walk_at "T H,q,a,b h";cases h with
 |tuple h1 h2=>
  cases h2 with|cons d1 r1=>cases r1 with|cons d2 r2=>
   cases r2;cases d1;cases d2;exact ⟨_,rfl,h1⟩
theorem vC {ds:List PyData} (y:DeepAll H ps ds):ps.length=ds.length∧ ∀{i:Nat} {p:PV} {d:PyData},ps[i]? =some p→ds[i]? =some d→dX H p d:=
 DeepAll.rec (motive_1:=fun _ _ _=>True) (motive_2:=fun ps ds _=>ps.length=ds.length∧ ∀{i:Nat} {p:PV} {d:PyData},ps[i]? =some p→ds[i]? =some d→dX H p d) trivial (fun _=>trivial) (fun _=>trivial) (fun _=>trivial) (fun _ _ _=>trivial) (fun _ _ _=>trivial)
  ⟨rfl,fun h=>by cases h⟩ (fun a _ _ ih=>⟨congrArg Nat.succ ih.1,fun {i p d} e f=>by
   cases i with
   |zero=>cases e;cases f;exact a
   |succ i=>exact ih.2 (i:=i) e f⟩) y
theorem Sr.start:Sr w H0 (H0++[.raw (sR fU) [.ref (H0.length+2), .none, .int 0, .int 0], .raw (iR 202) [.ref H0.length],dP w [] 0]) .none 0 0 0 c s:=by
 refine ⟨⟨_,rfl⟩,0,fun j hj=>?_⟩;rw [cK];obtain this:j=0∨j=1∨j=2:=by exact aQ 0x6b54120340a034020335120040d01 0x800100021000210042000400004000040000400 [_] hj
 rcases this with rfl|rfl|rfl<;>rfl
section
variable {C:Cx} {st:St} {K:PV→St→Prop} {n:Nat}
inductive Qx (w:aw) (h0:List PO) (i m:Nat) (s':St):Prop
 |mk (hm:m≤4) (k:Option PV) (H:List PO) (e:s'=⟨[some (.ref i),some (.ref (h0.length+1)),k,none,none,none,none],H⟩) (x:Sr w h0 H .none 0 0 m (fun _=>0) (fun _=>[])) (hl:H.length=h0.length+3+4*m):Qx w h0 i m s'
inductive Qi (w:aw) (h0:List PO) (i:Nat) (P:Pn) (t:Nat) (s':St):Prop
 |mk (ht:t≤P.length) (k j:Option PV) (H:List PO) (e:s'=⟨[some (.ref i),some (.ref (h0.length+1)),k,j,none,none,none],H⟩) (x:Sr w h0 H .none 0 0 4 (cP (P.take t)) (sP (P.take t))):Qi w h0 i P t s'
inductive Pg (w:aw) (h0:List PO) (i:Nat) (P:Pn) (k j:Option PV) (b:Bool) (s':St):Prop
 |mk (H:List PO) (r:Nat) (e:s'=⟨[some (.ref i),some (.ref (h0.length+1)),k,j,some (.bool b),none,none],H⟩) (y:Sr w h0 H (.ref r) 0 0 4 (cP P) (sP P)) (hr0:h0.length+3+4*4≤r) (hr:H[r]? =some (.list (pn (dC 4 (cP P))))):Pg w h0 i P k j b s'
inductive Qu (w:aw) (h0:List PO) (i:Nat) (P:Pn) (k j:Option PV) (b:Bool) (Lr r:Nat) (R:List (List Nat)) (f:Nat) (s':St):Prop
 |mk (rd:Option PV) (H:List PO) (p:CR) (R1 R2:List (List Nat)) (ps:List PV) (e:s'=⟨[some (.ref i),some (.ref (h0.length+1)),k,j,some (.bool b),some (.ref Lr),rd],H⟩) (q:Int) (x:Sr w h0 H (.ref r) q q 4 p.1 (sP P)) (h1:H[r]? =some (.list (pn p.2))) (h2:H[Lr]? =some (.list ps))
   (h3:RA (h0.length+3+4*4) r H ps R1) (h4: ∀e∈ps,e≠ .ref Lr) (h5:R=R1++R2) (h6:pQ (sP P) f p R2) (h7:p.2.length≤100) (h8:R1.length+f≤6):Qu w h0 i P k j b Lr r R f s'
theorem xJ {i:Nat} {P:Pn} {R:List (List Nat)} (S:bS C (n+9)) (Y:KnC C.K) (Z:uZ C.K) (hi:fA st.h i (P.map dQ)) (hP: ∀p∈P,p.1<4∧p.2<4) (hz:P.length≤20) (hR:pQ (sP P) 6 (cP P,dC 4 (cP P)) R)
  (h: ∀J t x ps lo r,(st.h++J)[t]? =some (.tuple [.bool (cV (sP P) 1000 (am 4) fun _=>false), .ref x])→(st.h++J)[x]? =some (.list ps)→RA lo r (st.h++J) ps R→K (.ref t) ⟨st.v,st.h++J⟩):PC C (.ref 230) [.ref i] st K:=by
 walk_at "T C,st,K,n,i,P,R S Y Z hi hP hz hR h";refine jO S ["pairs"] ["sorter","k","j","ring","rounds","ready"] S.kn.f_law_run.2.2 rfl (fun _ _ _ _ _ _ _ _=>iK fun v=>rfl) (by decide) (by decide+kernel) ?_;walk_at "I zz, SD";refine s_cons ?_;ext;refine Bq (n:=n+4) SD Y ?_;ext;let V (k j ring rounds ready:Option PV):List (Option PV):=[some (.ref i),some (.ref (st.h.length+1)),k,j,ring,rounds,ready];have x0:Sr C.w st.h (st.h++[.raw (sR fU) [.ref (st.h.length+2), .none, .int 0, .int 0], .raw (iR 202) [.ref st.h.length],dP C.w [] 0]) .none 0 0 0 (fun _=>0) (fun _=>[]):=Sr.start;have ho112: ∃H1,H1=st.h++[.raw (sR fU) [.ref (st.h.length+2), .none, .int 0, .int 0], .raw (iR 202) [.ref st.h.length],dP C.w [] 0]:=⟨_,rfl⟩;walk_at "E ho112 : H1, hH1";have hl1:H1.length=st.h.length+3:=by rw [hH1];simp
 rw [←hH1] at x0;refine kM (P:=fun s=>W1 _ _ s _) (v:=V none none none none none) hH1.symm ?_;clear hH1;refine hV S.qf (bP SD S.qf ?_);ext;refine ⟨4,rfl,by decide,?_⟩;refine ⟨Qx C.w st.h i,4,⟨cz _,none,H1,rfl,x0,hl1⟩,?_,?_,?_,?_⟩
 ·rintro m _ q ⟨hm,k,H,rfl,x,hl⟩ hq
  simp only [nZ,cy] at hq;split at hq
  ·assumption
  ·cases hq
 ·rintro m _ q ⟨hm,k,H,rfl,x,hl⟩ hq
  simp only [nZ,cy] at hq;split at hq
  ·rename_i hm4
   cases hq;ext;refine e_methF Y Y.m_add ?_ (by kernel_rfl) (by kernel_rfl) (by rfl) (by rfl) (by rfl);ext;refine ⟨⟨_,_,_,_,_,rfl,x.x,x.d,rfl⟩,?_⟩;ext;refine Gz (n:=n+1) SD Y x hl hm4 fun H' x' hl'=>?_;ext;refine .inl ⟨hm4,some (.int m),H',rfl,x'.ext (fun k _=>?_) (fun k _=>?_),hl'⟩
   ·by_cases e:k=m
    ·subst e;exact bW
    ·exact bQ e
   ·by_cases e:k=m
    ·subst e;exact bW
    ·exact bQ e
  ·cases hq
 ·rintro m _ ⟨hm,k,H,rfl,x,hl⟩
  simp [nZ]
 ·rintro m _ ⟨hm,k,H,rfl,x,hl⟩ hq
  simp only [nZ,cy] at hq;split at hq
  ·cases hq
  rename_i hm4
  have:m=4:=by exact aW 0x14220322203b99101 0x2008021 [_] hm hm4
  subst this;have ho156:=hi;walk_at "E ho156 : xs, hxs hdp";have ho158:=vC hdp;walk_at "E ho158 : hlen hget";have hlen:xs.length=P.length:=by rw [hlen];simp [iV]
  have hxs': ∀H,(∃J,H=st.h++J)→H[i]? =some (.list xs):=fun H ⟨J,e⟩=>by rw [e];exact old_get hxs
  have hitem: ∀H,(∃J,H=st.h++J)→ ∀{k:Nat} {q:PV},xs[k]? =some q→ ∃p ti,P[k]? =some p∧q= .ref ti∧H[ti]? =some (.tuple [.int (p.1:Nat), .int (p.2:Nat)]):=fun H ⟨J,e⟩ {k q} hq=>by have hk:=(af.mp hq).1;rw [hlen] at hk;have hd:=hget (d:= .tuple [.int (P[k].1:Nat), .int (P[k].2:Nat)]) hq (by delta iV;rw [cw,b8,ae hk];rfl);refine aE (Bg hd) fun ti qz1 ht=>?_;subst qz1;exact ⟨P[k],ti,ae hk,rfl,by rw [e];exact old_get ht⟩
  ext;refine Kt S.qf ?_;ext;refine ⟨i,xs,rfl,hxs' H x.pre,Qi C.w st.h i P,P.length,⟨cz _,k,none,H,rfl,x⟩,?_,?_,?_,?_⟩
  ·rintro t _ q ⟨ht,k,j,H,rfl,y⟩ hq
   refine aE (dU hq) fun xs' g1 g2=>?_;rw [hxs' H y.pre] at g1;cases g1;refine fW (hitem H y.pre g2) fun p ti hp e _=>?_;exact ⟨(af.mp hp).1,ti,e⟩
  ·intro t zs q zI hq
   refine Jq fun κ1 kk1=>?_;obtain ⟨ht,k,j,H,rfl,y⟩:=zI;refine aE (dU hq) fun xs' g1 g2=>?_;rw [hxs' H y.pre] at g1;cases g1;refine fW (hitem H y.pre g2) fun p ti hp qz3 htp=>?_;subst qz3;have hp4:=hP p (fh hp);have htl:=(af.mp hp).1;refine yM S.hn htp ?_ (by rfl);ext;refine e_methF Y Y.m_add ?_ (by kernel_rfl) (by kernel_rfl) (by rfl) (by rfl) (by rfl);ext;refine ⟨⟨_,_,_,_,_,rfl,y.x,y.d,rfl⟩,?_⟩;ext;have hsl:(sP (P.take t) p.2).length≤100:=by delta sP;rw [bl];have:=bw (fun q:Nat×Nat=>q.2==p.2) (P.take t);have:=List.length_take_le t P;lia
   refine Gj (n:=n+1) SD Y y hp4.1 hp4.2 hsl fun H' y'=>?_;ext;have et:P.take (t+1)=P.take t++[p]:=by rw [d7,hp];rfl
   refine .inl ⟨htl,some (.int (p.1:Nat)),some (.int (p.2:Nat)),H',rfl,?_⟩;rw [et];exact y'.ext (fun k _=>(Iy k).symm) fun k _=>(Gn k).symm
  ·rintro t _ ⟨ht,k,j,H,rfl,y⟩
   delta iS;dsimp only;rw [hxs' H y.pre];simp
  ·rintro t _ ⟨ht,k,j,H,rfl,y⟩ hq
   refine aE (dU hq) fun xs' g1 g2=>?_;rw [hxs' H y.pre] at g1;cases g1;have htl:t=P.length:=by rw [bz,hlen] at g2;exact aW 0x14106420c822 0x2008021 [_,_] ht g2
   subst htl;rw [iz] at y;have hsl: ∀k<4,(sP P k).length≤100:=fun k _=>by delta sP;rw [bl];have:=bw (fun q:Nat×Nat=>q.2==k) P;exact aW 0x24000c890ca8814841 1057 [_,_] hz this
   have hs4: ∀k<4, ∀j∈sP P k,j<4:=fun k _ j hj=>by refine aE (ap.mp hj) fun p hp qz2=>?_;subst qz2;exact (hP p (bp.mp hp).1).1
   ext;generalize hring:cV (sP P) 1000 (am 4) (fun _=>false)=ring at h;refine W1.mono (K:=fun fl st1=>fl= .next∧Pg C.w st.h i P k j ring st1) ?_ ?_
   ·refine Kx (X:=fun st1=>ring=true∧Pg C.w st.h i P k j false st1) Z aL S.hn eZ (by rfl) ?_ ?_
    ·refine bA (Ir (Br Y Y.m_prepare aL ?_ (by kernel_rfl) (by rfl)) (by rfl) (by rfl))
     ext;refine ⟨⟨_,_,_,_,_,rfl,y.x,y.d,rfl⟩,?_⟩;refine wV (n:=n+6) SD Y Z y (by decide) hsl hs4 (fun hf H' r y' hr0 hr=>?_) (fun hf H' r y' hr0 hr=>?_)
     ·refine eC ?_
      rw [hring] at hf;subst hf;exact ⟨rfl,H',r,rfl,y',hr0,hr⟩
     ·rw [hring] at hf
      exact ⟨hf,H',r,rfl,y',hr0,hr⟩
    ·rintro v _ ⟨hf,H',r,rfl,y',hr0,hr⟩
     subst hf;refine s_cons ?_;ext;exact ⟨rfl,H',r,rfl,y',hr0,hr⟩
   ·rintro fl st1 ⟨rfl,H,r,rfl,y,hr0,hr⟩
    try dsimp only
    refine s_cons ?_;ext;refine ⟨by decide,?_⟩;ext;have hHl:=y.len;obtain ⟨Lr,hLr⟩: ∃Lr,Lr=H.length:=⟨_,rfl⟩;have hrH:=(af.mp hr).1;have y1:=y.app [PO.list []];have hr1:=old_get (J:=[PO.list []]) hr;have hL1:(H++[PO.list []])[Lr]? =some (.list []):=by rw [hLr];exact g0
    obtain ⟨H2,hH2⟩: ∃H2,H2=H++[PO.list []]:=⟨_,rfl⟩;rw [←hH2] at y1 hr1 hL1;refine kM (P:=fun s=>W1 _ _ s _) (v:=V k j (some (.bool ring)) (some (.ref H.length)) none) hH2.symm ?_;clear hH2;rw [←hLr];refine iG S.qf (Qu C.w st.h i P k j ring Lr r R) 6 ?_ ?_
    ·refine ⟨none,H2,(cP P,dC 4 (cP P)),[],R,[],rfl,0,y1,hr1,hL1, .nil,(fun e he=>by cases he),rfl,hR,?_,by simp⟩
     show (dC 4 _).length≤100;exact aq (bw _ _) (by simp)
    intro f zs zI;refine Ox fun κ2 kk2=>?_;obtain ⟨rd,H,p,R1,R2,ps,rfl,q,y,hr,hL,ra,hne,hRR,hrun,hpl,hf6⟩:=zI;refine cY ?_;walk_at "d";ext;refine ⟨⟨_,_,_,_,_,rfl,y.x,y.d,rfl⟩,?_⟩;refine Aj (n:=n+7) SD Y y hr hpl ?_;have hqq:decide (q<q)=false:=by simp
    rw [hqq,mo];ext;have nQ:p.2=[]→R2=[]:=fun e=>by
     cases f with
     |zero=>exact hrun.2
     |succ f=>
      rw [wQ] at hrun;rcases hrun with ⟨_,h⟩|⟨h,_⟩
      ·exact h
      ·exact absurd e h
    refine aY (fun hb=>?_) (fun hb=>?_)
    ·cases f with
     |zero=>rw [hrun.1] at hb;cases hb
     |succ f=>
     rw [wQ] at hrun;rcases hrun with ⟨he,_⟩|⟨_,hnd,h4,p',R',hd,rfl,hrun'⟩
     ·rw [he] at hb;cases hb
     have hp4:=fK hnd h4;refine s_cons ?_;ext;walk_at "d";ext;refine ⟨⟨_,_,_,_,_,rfl,y.x,y.d,rfl⟩,?_⟩;refine Dm (n:=n+7) SD Y y hr hr0 hpl h4 fun H' t y' hr' ht' htlo htr fx=>?_;have hL':=fx _ _ (by simp_all) (by exact aW 0x374106830cc62 0x100401 [_,_,_] hLr hrH) hL;have hrH':=(af.mp hr').1;have hLH':=(af.mp hL').1;have ra':=ra.fx fx;ext;walk_at "k";ext;refine ⟨⟨_,hL',rfl⟩,?_⟩;ext;refine wU (l:=p.2.map fun k:Nat=>(k:Int)) ht' (by rw [bl];exact co (by assumption) (by decide)) fun l' hl1 hl2=>?_;have hsrt:=Mh hnd h4 hl1 hl2;subst hsrt;ext;have hpsl:=ra.length;refine eP (old_get hL') (by rw [hpsl];exact aC (by exact aQ 0x90c35024323214a0a041 33 [_,_] hf6)) ?_;have y2:=(y'.app [PO.list (pn (tS p.2))]).out (i:=Lr) (by simp_all) (.list (ps++[.ref H'.length]));have hr2:=gn (d:=Lr) (o:= .list (ps++[.ref H'.length])) (by exact aW 0x374106830cc62 0x100401 [_,_,_] hLr hrH) (old_get (J:=[PO.list (pn (tS p.2))]) hr');have ht2:=gn (d:=Lr) (o:= .list (ps++[.ref H'.length])) (fun e=>by subst e;rw [hL'] at ht';cases ht') (old_get (J:=[PO.list (pn (tS p.2))]) ht');have ra2:=(ra'.fx (H':=H'++[PO.list (pn (tS p.2))]) fun i o _ _ e=>old_get e).setL (o:= .list (ps++[.ref H'.length])) hne;have hs2:=gn (d:=Lr) (o:= .list (ps++[.ref H'.length])) (show Lr≠H'.length by exact ez (by assumption)) (g0 (h:=H') (J:=[PO.list (pn (tS p.2))]));have hL2:((H'++[PO.list (pn (tS p.2))]).set Lr (.list (ps++[.ref H'.length])))[Lr]? =some (.list (ps++[.ref H'.length])):=gs (by simp;exact jy (by assumption));have ra3:=ra2.snoc hs2 (show st.h.length+3+4*4≤H'.length by exact Cf 0x484a2408850d0190d448110a1a034292651cc44 0x2100421 [_,_,_,_,_] hr0 hLr hrH hLH') (by exact gm (by assumption));obtain ⟨H3,hH3⟩: ∃H3,H3=(H'++[PO.list (pn (tS p.2))]).set Lr (.list (ps++[.ref H'.length])):=⟨_,rfl⟩;rw [←hH3] at y2 hr2 ht2 hL2 ra3;ext;refine kM (P:=fun s=>WE _ _ s _) (v:=V k j (some (.bool ring)) (some (.ref Lr)) (some (.ref t))) hH3.symm ?_;clear hH3 ra2 hs2;refine Hl Y Y.m_done (by decide) ?_ (by kernel_rfl) (by rfl);ext;refine ⟨⟨_,_,_,_,_,rfl,y2.x,y2.d,rfl⟩,?_⟩;ext;refine ⟨t,pn p.2,rfl,ht2,by rw [bE];exact aC (by exact aq (by assumption) (ax _ _)),?_⟩;refine Ig (n:=n+7) SD Y y2 (rdy:=[]) hr2 hr0 hp4 (by simp) hsl hs4 h4 hd fun H4 y4 hr4 fx4=>?_;ext;refine .inl ⟨f,ch f,some (.ref t),H4,p',R1++[tS p.2],R',ps++[.ref H'.length],rfl,_,y4,hr4,fx4 _ _ (by simp_all) (by exact aW 0x374106830cc62 0x100401 [_,_,_] hLr hrH) hL2,ra3.fx fx4,?_,by rw [hRR,aa];rfl,hrun',?_,by rw [aj];simp;exact aQ 0x2464284a0a0323214a0a041 33 [_,_] hf6⟩
     ·walk_at "I e, he"
      rcases bq.mp he with he|he
      ·exact hne e he
      ·rw [bk] at he
       subst he;walk_at "I q";cases q;exact absurd (by assumption) (ci _)
     ·exact aq (xG hrun') (by decide)
    ·have he:p.2=[]:=by cases q2:p.2 with|nil=>rfl|cons a l=>rw [q2] at hb;cases hb
     rw [nQ he,be] at hRR;refine s_nil ?_;refine s_cons ?_;ext;refine ⟨(show 2≤100000 by decide),?_⟩;obtain ⟨J,rfl⟩:=y.pre;have eA:st.h++J++[PO.tuple [PV.bool ring,PV.ref Lr]]=st.h++(J++[PO.tuple [PV.bool ring,PV.ref Lr]]):=aa ..;refine kM (P:=K _) eA (h _ _ Lr ps (st.h.length+3+4*4) r (by rw [←eA];exact g0) (by rw [←eA];exact old_get hL) ?_);rw [←eA,hRR];exact ra.fx fun i o _ _ e=>old_get e
end
end
section
section
open PySem.SeqAt
variable {C:Cx} {st:St} {K:PV→St→Prop} {n:Nat}
def dL (xs:List Int):Pn:=(bU xs).map fun p=>(p.1.toNat,p.2.toNat)
theorem kL (xs:List Int):(dL xs).map dQ=bU xs:=by
 delta dL;rw [cw]
 conv=>rhs;rw [←mj (bU xs)]
 refine gv fun p hp=>?_;refine aE (ap.mp hp) fun x _ qz2=>?_;subst qz2;have h1:=cX x (m:=4) (by decide);have h2:=cX (d8 x 4) (m:=4) (by decide);show (((cv x 4).toNat:Int),((cv (d8 x 4) 4).toNat:Int))=(_,_);obtain h1:0≤cv x 4:=h1.1;obtain h2:0≤cv (d8 x 4) 4:=h2.1;rw [oo h1,oo h2]
theorem uU (xs:List Int): ∀p∈dL xs,p.1<4∧p.2<4:=by
 intro p hp;refine aE (ap.mp hp) fun q hq qz2=>?_;subst qz2;refine aE (ap.mp hq) fun x _ qz2=>?_;subst qz2;have h1:=cX x (m:=4) (by decide);have h2:=cX (d8 x 4) (m:=4) (by decide);have h1:0≤cv x 4∧cv x 4<4:=h1;have h2:0≤cv (d8 x 4) 4∧cv (d8 x 4) 4<4:=h2;constructor
 ·show (cv x 4).toNat<4;simp_all
 ·show (cv (d8 x 4) 4).toNat<4;simp_all
theorem rC (xs:List Int):(dL xs).length≤10:=by delta dL bU;rw [bl,bl];refine aq (bw _ _) ?_;rw [aj,gy];show min 6 _+4≤10;exact jP 0x24a42888604c8 33793 [_]
theorem uT {H:List PO} {P:List (Int×Int)}:fA (H++ .list (cQ (H.length+1) P.length)::nM P) H.length P:=by
 walk_at "T H,P";refine ⟨cQ (H.length+1) P.length,by simp,?_⟩;delta cQ;obtain key: ∀(Q:List (Int×Int)) (a:Nat),(∀k p,Q[k]? =some p→(H++ .list (cQ (H.length+1) P.length)::nM P)[a+k]? =some (.tuple [.int p.1, .int p.2]))→DeepAll (H++ .list (cQ (H.length+1) P.length)::nM P) ((sg a Q.length).map PV.ref) (iV Q):=by
  intro Q;induction Q with
  |nil=>intro a _;exact .nil
  |cons p Q ih=>
   intro a h;refine .cons (.tuple (h 0 p rfl) (.cons (.int _) (.cons (.int _) .nil))) ?_;exact ih (a+1) fun k q e=>by have:=h (k+1) q e;rwa [show a+(k+1)=a+1+k by exact jP 0x14509414054a0a041 33 [_,_]] at this
 have:=key P (H.length+1) fun k p e=>by rw [bf (by exact jP 0x9284a0a021 1 [_,_]),show H.length+1+k - H.length=k+1 by exact jP 0x14505025854250501 0x42000401 [_,_],kx];delta nM;rw [b8,e];rfl
 rwa [List.range'_eq_map_range,cw] at this
theorem lM {p q:PV} {d:PyData} (S:bS C n) (hp:dX st.h p d) (hq:dX st.h q d) (hs:shaped d=true) (h:K (.bool false) st):P2 C (d0 .NotEq) p q st K:=
 Ju S hp hq hs hs (by rw [eqv_refl d (canLay_of_shaped hs)];exact h)
abbrev Fy (R:List (List Nat)):PyData:= .list (R.map fun r=> .list (r.map fun k:Nat=> .int k))
theorem nD: ∀R:List (List Nat),ig (R.map fun r=> .list (r.map fun k:Nat=> .int k))=true:=by
 intro zi;induction zi with
 |nil=>exact rfl
 |cons r R ih=>simp only [bg,ig,md,nG,ih,qw]
theorem pM: ∀R:List (List Nat),i5 (R.map fun r=>PyData.list (r.map fun k:Nat=> .int k))≤2:=by
 intro zi;induction zi with
 |nil=>exact cz _
 |cons r R ih=>have h1:=kC r;have h2:=ih;simp only [bg,i5,j0];exact aW 0x12121a2505019050190902 0x40108001 [_,_] h1 h2
theorem tY (b:Bool) (R:List (List Nat)):shaped (.tuple [.bool b,Fy R])=true:=by
 delta shaped;rw [bt];refine ⟨?_,?_⟩
 ·simp only [md,ig,nD R,qw]
 ·have:=pM R
  rw [decide_eq_true_eq];simp only [j0,i5];exact aQ 0x48001012a0a1ad021414040890901 0x1000010800100001 [_] this
abbrev lK:List Str:=["texts","pairs","ring","rounds","width","text","letters","told","every","coded","head","body","plain"]
def LV (i it ip:Nat) (ring rounds width text letters told every coded head body plain:Option PV):List (Option PV):=[some (.glob (.ref i)),some (.ref it),some (.ref ip),ring,rounds,width,text,letters,told,every,coded,head,body,plain]
def LC (C:Cx) (zq:Zs):Cx:=
 Fz (aP (aD 40)) (aX (aD 40)) (aU (aD 40)) .none 259 ((["script"]:List Str)++lK) C zq
theorem oC (hn:C.A.handled=none) {zz:Zs}:(LC C zz).Quiet:=⟨hn,fun _ _ e=>e⟩
def jJ (i:Nat):iy:=(aX (aD 40)).getD i default
theorem mO (z:Str):lw z=((lw z).map fun y=>y.cps.toList).map tx:=by
 rw [cw]
 conv=>lhs;rw [←mj (lw z)]
 exact gv fun y _=>(mC y).symm
theorem mK (H:List PO) {i:Nat} {l:List Str} (h:H[i]? =some (.list (aB l))):dX H (.ref i) (.list (l.map .str)):= .list h (mE H l)
end
end
section
section
open PySem.SeqAt
variable {C:Cx} {st:St} {K:PV→St→Prop} {n:Nat}
def jX:List Str:=["","=zz","=4","a=\n","=c8"]
def cR (z:Str):List (List Nat):=(lw z).map fun y=>y.cps.toList
def Jd (z:Str):Str:=tx (pD z.cps.toList (cR z))
theorem Bt: ∀z∈jX,z.length≤5000∧(cR z).flatten.length≤5000∧(cR z).length≤5001:=by decide+kernel
theorem wG:jX.map Jd=(["","=zz","=4","a","È"]:List Str):=by decide+kernel
theorem Km:("":Str)=tx []:=by decide+kernel
theorem Qa {KF:Fl→St→Prop} {i it ip:Nat} {ring rounds:PV} {w:Nat} {H:List PO} {zz:Zs} (hn:C.A.handled=none) (SD:bS (LC C zz) (n+3)) (hw:4≤w) (hw2:w≤1000)
  (h: ∀J,KF .next ⟨LV i it ip (some ring) (some rounds) (some (.int w)) none none none none none none none none,H++J⟩):
  W1 (LC C zz) (jJ 5) ⟨LV i it ip (some ring) (some rounds) (some (.int w)) none none none none none none none none,H⟩ KF:=by
 walk_at "T C,n,KF,i,it,ip,ring,rounds,w,H,zz hn SD hw hw2 h";have QL:=oC hn (zz:=zz);refine s_if ?_;ext;refine bM ["text"] SD QL 14 (by kernel_rfl) (cT QL ?_);ext;refine ⟨(by show 5≤100000;decide),?_⟩;refine ⟨_,jD (xs:=aB jX) QL g0,rfl,aB jX,fun q=>match q with| .str z=>some (.str (Jd z))|_=>none,(by decide),?_,?_,?_⟩
 ·intro k t
  delta Iq;rw [old_get (g0 (h:=H))];rfl
 ·walk_at "I L', SB QB q,acc hq"
  refine aE (ap.mp hq) fun z hz qz2=>?_;subst qz2;have hz':=Bt z hz;obtain ⟨e,rfl⟩: ∃e,z=tx e:=⟨_,(mC z).symm⟩;rw [aH] at hz';ext;refine mP (n:=n+1) SB hz'.1 (mO (tx e)) hz'.2.1 hz'.2.2 fun J=>?_;exact ⟨rfl,trivial,fun j w=>aF rfl,_,rfl⟩
 rw [show (aB jX).filterMap (fun q=>match q with| .str z=>some (.str (Jd z))|_=>none)=aB (jX.map Jd) from rfl,wG];ext;refine ⟨(by show 5≤100000;decide),?_⟩;refine lM SD (d:= .list ((["","=zz","=4","a","È"]:List Str).map .str)) (mK _ (old_get g0)) (mK _ g0) (nA (by decide+kernel)) ?_
 try dsimp only
 ext;rw [Km];refine fQ (n:=n+1) (L:=cR (tx (eI aG []))) SD (fun c hc=>by cases hc) (by decide) hw hw2 (mO _) (by decide+kernel) (by decide+kernel) fun J=>?_;ext;obtain e:(tx (nH w [] (cR (tx (eI aG [])))) != tx [])=false:=by unfold nH;rw [if_pos rfl];simp
 rw [e];ext;rw [Pe];exact h _
end
end
section
section
open PySem.SeqAt
variable {C:Cx} {st:St} {K:PV→St→Prop} {n:Nat}
def fP:List Nat:=[97,98,99,100,101,102,103,104,105,106,107,108,109,110,111,112,113,114,115,116,117,118,119,120,121,122,65,66,67,68,69,70,71,72,73,74,75,76,77,78,79,80,81,82,83,84,85,86,87,88,89,90,48,49,50,51,52,53,54,55,56,57,45,33,42,43,47]
def aJ:Str:=tx fP
theorem wP:("abcdefghijklmnopqrstuvwxyzABCDEFGHIJKLMNOPQRSTUVWXYZ0123456789-!*+/":Str)=aJ:=by decide+kernel
def lG:List Nat:=(am 256).filter fun k=> !fP.contains k
def pE:List Nat:=(am 256).filter fun k=>(cW k).length==3
def jL (k:Nat):Bool:=dO k != lI k
def iB (k:Nat):Bool:=dO k != cW k
theorem Ft (k:Nat):o7 aJ (dO k)=fP.contains k:=(eE fP k).trans (List.contains_eq_mem _ _).symm
theorem zZ:(am 256).filter jL=lG:=by decide+kernel
theorem Bj:(am 256).filter iB=pE:=by decide+kernel
theorem Pv {KF:Fl→St→Prop} {i it ip:Nat} {ring rounds:PV} {w:Nat} {H:List PO} {zz:Zs} (hn:C.A.handled=none) (SD:bS (LC C zz) (n+3))
  (h: ∀J r a b,(H++J)[r]? =some (.list [.ref a, .ref b])→(H++J)[a]? =some (.list (pn lG))→(H++J)[b]? =some (.list (pn pE))→KF .next ⟨LV i it ip (some ring) (some rounds) (some (.int w)) none (some (.str aJ)) (some (.ref r)) none none none none none,H++J⟩):
  W1 (LC C zz) (jJ 7) ⟨LV i it ip (some ring) (some rounds) (some (.int w)) none (some (.str aJ)) none none none none none none,H⟩
   KF:=by
 walk_at "T C,n,KF,i,it,ip,ring,rounds,w,H,zz hn SD h";have QL:=oC hn (zz:=zz);refine s_assign ?_ rfl rfl (by rfl);ext;refine bM ["k"] SD QL 14 (by kernel_rfl) (bP SD QL ?_);ext;refine ⟨256,rfl,by decide,rfl,(am 256).map (fun k:Nat=>PV.int k),fun q=>match q with| .int k=>if (!fP.contains k.toNat)=true then some (.int k) else none|_=>none,by simp;exact aC (by decide),fun k t=>cG _ _ _,?_,?_⟩
 ·intro L' SB QB q acc hq
  refine aE (ap.mp hq) fun k hk qz2=>?_;subst qz2;have hk:=bj.mp hk;ext;refine rJ (by exact bi _) (by lia) ?_;ext;rw [show o7 aJ (dO (k:Int).toNat)=fP.contains (k:Int).toNat from Ft _];refine aY (fun h4=>?_) (fun h4=>?_)
  ·ext
   exact ⟨if_pos h4,trivial,cU.now fun j w=>aF rfl⟩
  ·exact ⟨if_neg (by rw [h4];exact cr),cU.now fun j w=>aF rfl⟩
 rw [aZ (p:=fun k=> !fP.contains k) (g:=fun k=>PV.int k) (fun j _=>rfl), ←dI];refine kM (P:=fun s=>WA _ _ _ s _) (v:=LV i it ip (some ring) (some rounds) (some (.int w)) none (some (.str aJ)) none none none none none none) (H:=H++[PO.list (pn lG)]) rfl ?_;ext;refine bM ["k"] SD QL 14 (by kernel_rfl) (bP SD QL ?_);ext;refine ⟨256,rfl,by decide,rfl,(am 256).map (fun k:Nat=>PV.int k),fun q=>match q with| .int k=>if ((cW k.toNat).length==3)=true then some (.int k) else none|_=>none,by simp;exact aC (by decide),fun k t=>cG _ _ _,?_,?_⟩
 ·intro L' SB QB q acc hq
  refine aE (ap.mp hq) fun k hk qz2=>?_;subst qz2;have hk:=bj.mp hk;have hl:(cW k).length≤3:=by
   obtain this: ∀k<256,(cW k).length≤3:=by decide+kernel
   exact this k hk
  ext;refine lZ (n:=n+2) SB hk ?_;ext;refine iW (aC (by exact aq (by assumption) (ax _ _))) ?_;ext;obtain e:(((cW k).length:Int)==3)=((cW k).length==3):=by rw [fa];simp;lia
  rw [e];refine aY (fun h4=>?_) (fun h4=>?_)
  ·ext
   exact ⟨if_pos h4,trivial,cU.now fun j w=>aF rfl⟩
  ·exact ⟨if_neg (by rw [bo,h4];exact cr),cU.now fun j w=>aF rfl⟩
 rw [aZ (p:=fun k=>(cW k).length==3) (g:=fun k=>PV.int k) (fun j _=>rfl), ←dI];ext;refine ⟨(by show 2≤100000;decide),?_⟩;simp only [aa,aj,er];exact h [PO.list (pn lG), .list (pn pE), .list [.ref H.length, .ref (H.length+1)]] (H.length+2) H.length (H.length+1) (by rw [cK];rfl) g0 (by rw [cK];rfl)
theorem Pj {KF:Fl→St→Prop} {i it ip r a b:Nat} {ring rounds:PV} {w:Nat} {H:List PO} {zz:Zs} (hn:C.A.handled=none) (SD:bS (LC C zz) (n+3))
  (hr:H[r]? =some (.list [.ref a, .ref b])) (ha:H[a]? =some (.list (pn lG))) (hb:H[b]? =some (.list (pn pE)))
  (h: ∀J,KF .next ⟨LV i it ip (some ring) (some rounds) (some (.int w)) none (some (.str aJ)) (some (.ref r)) none none none none none,H++J⟩):
  W1 (LC C zz) (jJ 8) ⟨LV i it ip (some ring) (some rounds) (some (.int w)) none (some (.str aJ)) (some (.ref r)) none none none none none,H⟩
   KF:=by
 walk_at "T C,n,KF,i,it,ip,r,a,b,ring,rounds,w,H,zz hn SD hr ha hb h";have QL:=oC hn (zz:=zz);refine s_if ?_;ext;refine bM ["k"] SD QL 14 (by kernel_rfl) (bP SD QL ?_);ext;refine ⟨256,rfl,by decide,rfl,(am 256).map (fun k:Nat=>PV.int k),fun q=>match q with| .int k=>if jL k.toNat=true then some (.int k) else none|_=>none,by simp;exact aC (by decide),fun k t=>cG _ _ _,?_,?_⟩
 ·intro L' SB QB q acc hq
  refine aE (ap.mp hq) fun k hk qz2=>?_;subst qz2;have hk:=bj.mp hk;refine pa_name rfl rfl ?_;refine wi_one (cY ?_);ext;refine iN (n:=n+2) SB hk ?_;ext;refine aY (fun h4=>?_) (fun h4=>?_)
  ·ext
   exact ⟨if_pos h4,trivial,cU.now fun j w=>aF rfl⟩
  ·exact ⟨if_neg (by delta jL;rw [bo,h4];exact cr),cU.now fun j w=>aF rfl⟩
 rw [aZ (p:=jL) (g:=fun k=>PV.int k) (fun j _=>rfl), ←dI,zZ];refine kM (P:=fun s=>WA _ _ _ s _) (v:=LV i it ip (some ring) (some rounds) (some (.int w)) none (some (.str aJ)) (some (.ref r)) none none none none none) (H:=H++[PO.list (pn lG)]) rfl ?_;ext;refine bM ["k"] SD QL 14 (by kernel_rfl) (bP SD QL ?_);ext;refine ⟨256,rfl,by decide,rfl,(am 256).map (fun k:Nat=>PV.int k),fun q=>match q with| .int k=>if iB k.toNat=true then some (.int k) else none|_=>none,by simp;exact aC (by decide),fun k t=>cG _ _ _,?_,?_⟩
 ·intro L' SB QB q acc hq
  refine aE (ap.mp hq) fun k hk qz2=>?_;subst qz2;have hk:=bj.mp hk;refine pa_name rfl rfl ?_;refine wi_one (cY ?_);ext;refine kI (n:=n+2) SB hk ?_;ext;refine aY (fun h4=>?_) (fun h4=>?_)
  ·ext
   exact ⟨if_pos h4,trivial,cU.now fun j w=>aF rfl⟩
  ·exact ⟨if_neg (by delta iB;rw [bo,h4];exact cr),cU.now fun j w=>aF rfl⟩
 rw [aZ (p:=iB) (g:=fun k=>PV.int k) (fun j _=>rfl), ←dI,Bj];refine kM (P:=fun s=>WA _ _ _ s _) (v:=LV i it ip (some ring) (some rounds) (some (.int w)) none (some (.str aJ)) (some (.ref r)) none none none none none) (H:=H++[PO.list (pn lG)]++[PO.list (pn pE)]) rfl ?_;ext;refine ⟨(by show 2≤100000;decide),?_⟩;ext;refine lM SD (d:=Fy [lG,pE]) (.list g0 ?_) (.list (old_get (old_get (old_get hr))) ?_) ?_ ?_
 ·refine .cons (.list ?_ (dM _ _)) (.cons (.list ?_ (dM _ _)) .nil)
  ·exact old_get (old_get g0)
  ·dsimp only;exact old_get g0
 ·exact .cons (.list (old_get (old_get (old_get ha))) (dM _ _)) (.cons (.list (old_get (old_get (old_get hb))) (dM _ _)) .nil)
 ·delta shaped
  rw [bt];refine ⟨?_,?_⟩
  ·simp only [md,nD]
  ·have:=pM [lG,pE]
   rw [decide_eq_true_eq];simp only [j0];exact co (by assumption) (by decide)
 ext;rw [vS];exact h _
end
end
section
section
open PySem.SeqAt
variable {i:Nat}
variable {C:Cx} {st:St} {K:PV→St→Prop} {n:Nat}
theorem Io {l:List Int} {k:Int} (hi:st.h[i]? =some (.tuple (aI l))) (h:K (.bool (!l.any (· ==k))) st):P2 C (d0 .NotIn) (.int k) (.ref i) st K:=fun B T σ s v u x ⟨_,e⟩ ⟨a,ha,f⟩=>by subst e f;refine nn fun gg=>?_;obtain ⟨ob,eo,vs,m,rfl,r⟩:=x.hr.at_ i a _ ha hi;refine gg ?_;exact notin_tuple_ints ⟨_,eo,rfl,m,rfl⟩ (kO r) (aO.bool x h)
def Ci (k:Nat):Bool:= !([10,13]:List Int).any (· ==(k:Int))
def dD:List Nat:=(am 256).filter Ci
def bN:List (List Nat):=bB 1000 dD.length (dD.map aR)
theorem jW {l:List Nat} (h: ∀c∈l,fm c=true→c=10):cR (tx l)=dl (fY l):=by delta cR;rw [Bk h,cw];exact mj _
theorem vQ:cR (tx (eI aG dD))=dl (fY (eI aG dD)):=jW (by decide+kernel)
theorem tX:cR (tx bN.flatten)=dl (fY bN.flatten):=jW (by decide+kernel)
theorem Fv:dD.length≤300∧(cR (tx (eI aG dD))).flatten.length≤900∧(cR (tx (eI aG dD))).length≤901:=by rw [vQ];decide+kernel
theorem Cb:nH 1000 dD (cR (tx (eI aG dD)))=bN.flatten:=by rw [vQ];decide+kernel
theorem Ak:pD bN.flatten (cR (tx bN.flatten))=dD:=by rw [tX];decide+kernel
theorem zQ:bN.flatten.length≤5000∧(cR (tx bN.flatten)).flatten.length≤5000∧(cR (tx bN.flatten)).length≤5001:=by rw [tX];decide+kernel
theorem zF: ∀l:List Nat,(l.map fun c=>[c]).flatten=l:=by
 intro zi;induction zi with
 |nil=>exact rfl
 |cons a r ih=>rw [bg,br,ih];rfl
theorem Pr (l:List Nat):aB (l.map dO)=dH (l.map fun c=>[c]):=by delta dH;rw [cw];rfl
theorem Ps {KF:Fl→St→Prop} {it ip r:Nat} {ring rounds:PV} {w:Nat} {H:List PO} {zz:Zs} (hn:C.A.handled=none) (SD:bS (LC C zz) (n+3))
  (h:KF .next ⟨LV i it ip (some ring) (some rounds) (some (.int w)) none (some (.str aJ)) (some (.ref r)) (some (.ref H.length)) none none none none,H++[.list (aB (dD.map dO))]⟩):
  W1 (LC C zz) (jJ 9) ⟨LV i it ip (some ring) (some rounds) (some (.int w)) none (some (.str aJ)) (some (.ref r)) none none none none none,H⟩
   KF:=by
 have QL:=oC hn (zz:=zz);refine Ah (i:=9) ["k"] SD QL 14 (by kernel_rfl) (bP SD QL ?_) ?h1 ?h2 ?h3 ?h4 ?h5
 case h3=>rfl
 case h4=>rfl
 case h5=>rfl
 case h1=>intro _ _;rfl
 case h2=>intro _ _;rfl
 ext;refine ⟨256,rfl,by decide,rfl,(am 256).map (fun k:Nat=>PV.int k),fun q=>match q with| .int k=>if Ci k.toNat=true then some (.str (dO k.toNat)) else none|_=>none,by simp;exact aC (by decide),fun k t=>cG _ _ _,?_,?_⟩
 ·intro L' SB QB q acc hq
  refine aE (ap.mp hq) fun k hk qz2=>?_;subst qz2;have hk:=bj.mp hk;ext;refine ⟨(by show 2≤100000;decide),?_⟩;ext;refine Io (l:=[10,13]) g0 ?_;ext;refine aY (fun h4=>?_) (fun h4=>?_)
  ·ext
   refine rJ (by exact bi _) (by lia) ?_;exact ⟨if_pos h4,trivial,fun j w=>aF rfl,_,rfl⟩
  ·exact ⟨if_neg (by delta Ci;rw [bo,h4];exact cr),fun j w=>aF rfl,_,rfl⟩
 rw [aZ (p:=Ci) (g:=fun k=>PV.str (dO k)) (fun j _=>rfl)];rw [show ((am 256).filter Ci).map (fun k=>PV.str (dO k))=aB (dD.map dO) from by delta aB;rw [cw];rfl];exact h
end
end
section
section
open PySem.SeqAt
variable {C:Cx} {st:St} {K:PV→St→Prop} {n:Nat}
theorem Nu {KF:Fl→St→Prop} {i it ip r re:Nat} {ring rounds:PV} {w:Nat} {H:List PO} {zz:Zs} (hn:C.A.handled=none) (SD:bS (LC C zz) (n+3))
  (he:H[re]? =some (.list (aB (dD.map dO))))
  (h: ∀J,KF .next ⟨LV i it ip (some ring) (some rounds) (some (.int w)) none (some (.str aJ)) (some (.ref r)) (some (.ref re)) none none none none,H++J⟩):
  W1 (LC C zz) (jJ 10) ⟨LV i it ip (some ring) (some rounds) (some (.int w)) none (some (.str aJ)) (some (.ref r)) (some (.ref re)) none none none none,H⟩
   KF:=by
 have QL:=oC hn (zz:=zz);have he2:H[re]? =some (.list (dH (dD.map fun c=>[c]))):=by rw [←Pr];exact he
 have hE:=Fv;have hE2:=zQ;have hlt: ∀c∈dD,c<256:=fun c hc=>bj.mp (bp.mp hc).1;refine s_if ?_;ext;walk_at "j";refine gD he2 (by rw [zF];exact aC (by exact ax _ _)) ?_;rw [zF];ext;refine fQ (n:=n+1) (w:=1000) (L:=cR (tx (eI aG dD))) SD hlt hE.1 (by decide) (by decide) (mO _) hE.2.1 hE.2.2 fun J1=>?_;rw [Cb];refine kM (P:=fun s=>WE _ _ s _) (v:=LV i it ip (some ring) (some rounds) (some (.int w)) none (some (.str aJ)) (some (.ref r)) (some (.ref re)) none none none none) (H:=H++J1) rfl ?_;walk_at "j";refine iX (n:=n+1) (w:=1000) SD (.list (old_get he)) hlt (by exact ax _ _) (by decide) (by decide) fun J2=>?_;refine kM (P:=fun s=>WA _ _ _ s _) (v:=LV i it ip (some ring) (some rounds) (some (.int w)) none (some (.str aJ)) (some (.ref r)) (some (.ref re)) none none none none) (H:=H++J1++J2++[.list (dH bN)]) rfl ?_;ext;refine gD (ls:=bN) (by rw [←aj];exact g0) (aC (by exact ax _ _)) ?_;ext;obtain e0:(tx bN.flatten != tx bN.flatten)=false:=by simp
 rw [e0];ext;walk_at "j";refine iX (n:=n+1) (w:=1000) SD (.list (old_get (old_get (old_get he)))) hlt (by exact ax _ _) (by decide) (by decide) fun J3=>?_;refine kM (P:=fun s=>WA _ _ _ s _) (v:=LV i it ip (some ring) (some rounds) (some (.int w)) none (some (.str aJ)) (some (.ref r)) (some (.ref re)) none none none none) (H:=H++J1++J2++[.list (dH bN)]++J3++[.list (dH bN)]) rfl ?_;ext;refine gD (ls:=bN) (by rw [←aj];exact g0) (aC (by exact ax _ _)) ?_;ext;refine mP (n:=n+1) (L:=cR (tx bN.flatten)) SD hE2.1 (mO _) hE2.2.1 hE2.2.2 fun J4=>?_;rw [Ak];walk_at "j";refine gD (old_get (old_get (old_get (old_get (old_get (old_get he2)))))) (by rw [zF];exact aC (by exact ax _ _)) ?_;rw [zF];ext;obtain e1:(tx dD != tx dD)=false:=by simp
 rw [e1];ext;rw [Ru];exact h _
end
end
section
section
open PySem.SeqAt
variable {C:Cx} {st:St} {K:PV→St→Prop} {n:Nat}
def Gs:iy→List iy
 | .For _ _ b _ _=>b
 |_=>[]
def rG (i:Nat):iy:=(Gs (jJ 11)).getD i default
def iQ (w:Nat) (t:List Nat):List Nat:=nH w t (cR (tx (eI aG t)))
def jK (t:List Nat):List Str:=lv (tx t) "\n"
def lY (w:Nat) (t:List Nat):List (List Nat):=(jK t).flatMap fun z=>bB w z.cps.toList.length (z.cps.toList.map aR)
structure fE (w:Nat) (t:List Nat):Prop where
 lt: ∀c∈t,c<256
 len:t.length≤12
 l1:(cR (tx (eI aG t))).flatten.length≤900
 l2:(cR (tx (eI aG t))).length≤901
 sp: ∀z∈jK t,z.cps.toList.length≤1000∧ ∀c∈z.cps.toList,c<256
 rows:(lY w t).flatten.length+(lY w t).length≤5000
 enc:iQ w t=aS (lY w t)
 d1:(iQ w t).length≤5000
 d2:(cR (tx (iQ w t))).flatten.length≤5000
 d3:(cR (tx (iQ w t))).length≤5001
 dec:pD (iQ w t) (cR (tx (iQ w t)))=t
theorem Nn {KF:Fl→St→Prop} {i it ip r re:Nat} {ring rounds:PV} {w:Nat} {t:List Nat} {cd hd bd' pl:Option PV} {H:List PO} {zz:Zs} (SD:bS (LC C zz) (n+3)) (hw:4≤w) (hw2:w≤1000) (O:fE w t)
  (h: ∀J,KF .next ⟨LV i it ip (some ring) (some rounds) (some (.int w)) (some (.str (tx t))) (some (.str aJ)) (some (.ref r)) (some (.ref re)) (some (.str (tx (iQ w t)))) hd bd' pl,H++J⟩):
  W1 (LC C zz) (rG 0) ⟨LV i it ip (some ring) (some rounds) (some (.int w)) (some (.str (tx t))) (some (.str aJ)) (some (.ref r)) (some (.ref re)) cd hd bd' pl,H⟩
   KF:=by
 refine s_assign ?_ rfl rfl (by rfl);ext;obtain hl:=O.len;refine fQ (n:=n+1) (L:=cR (tx (eI aG t))) SD O.lt (by exact aQ 0x48004b12193101 33 [_] hl) hw hw2 (mO _) O.l1 O.l2 fun J1=>?_;exact h J1
theorem Np {KF:Fl→St→Prop} {i it ip r re:Nat} {ring rounds:PV} {w:Nat} {t:List Nat} {hd bd' pl:Option PV} {H:List PO} {zz:Zs} (hn:C.A.handled=none) (SD:bS (LC C zz) (n+3)) (hw:4≤w) (hw2:w≤1000) (O:fE w t)
  (h: ∀J,KF .next ⟨LV i it ip (some ring) (some rounds) (some (.int w)) (some (.str (tx t))) (some (.str aJ)) (some (.ref r)) (some (.ref re)) (some (.str (tx (iQ w t)))) hd bd' pl,H++J⟩):
  W1 (LC C zz) (rG 1) ⟨LV i it ip (some ring) (some rounds) (some (.int w)) (some (.str (tx t))) (some (.str aJ)) (some (.ref r)) (some (.ref re)) (some (.str (tx (iQ w t)))) hd bd' pl,H⟩
   KF:=by
 walk_at "T C,n,KF,i,it,ip,r,re,ring,rounds,w,t,hd,bd',pl,H zz, hn SD hw hw2 O h";have QL:=oC hn (zz:=zz);have hl:=O.len;obtain hrows:=O.rows;have hfl:(aB (jK t)).flatMap (fun q=>match q with| .str z=>dH (bB w z.cps.toList.length (z.cps.toList.map aR))|_=>[])=dH (lY w t):=by
  delta lY;generalize jK t=l;induction l with
  |nil=>rfl
  |cons a l ih=>rw [cx,iC, ←ih];rfl
 refine s_if ?_;ext;walk_at "j";refine Er ["line","row"] SD QL 14 (by kernel_rfl) (cT QL ?_);ext;walk_at "j";refine Hd (by decide+kernel) (by rw [aH];exact aC (by exact aq (by assumption) (ax _ _))) ?_;refine ⟨_,cN QL g0,rfl,aB (jK t),fun q=>match q with| .str z=>dH (bB w z.cps.toList.length (z.cps.toList.map aR))|_=>[],?_,?_,?_,?_⟩
 ·rw [hfl,bG];exact aC (by exact aQ 0x90c3502432013884a822 33 [_,_] hrows)
 ·intro k t'
  delta iS;rw [old_get g0];rfl
 ·walk_at "I L', SB QB q,acc hq"
  obtain ho59:=ap.mp hq;walk_at "E ho59 : z, hz rfl";have hz':=O.sp z hz;ext;refine cT QB ?_;ext;refine iX (n:=n+1) SB (.str z) hz'.2 hz'.1 hw hw2 ?_;walk_at "I J2,"
  try dsimp only
  rw [←aj];refine ⟨_,cN QB g0,⟨fun j w=>aF rfl,J2++[.list (dH (bB w z.cps.toList.length (z.cps.toList.map aR)))],by exact aa ..⟩,dH (bB w z.cps.toList.length (z.cps.toList.map aR)),id,(mj _).symm,Fi,?_,?_⟩
  ·intro k acc'
   delta iS;rw [gn (by simp only [aj,er];exact jP 0x6e8a128285050150501 32 [_,_]) g0]
  ·walk_at "I q2,acc' hq2"
   obtain ho74:=ap.mp hq2;walk_at "E ho74 : y, hy rfl";ext;exact ⟨rfl,trivial,cU.now fun j w=>aF rfl⟩
 rw [hfl];refine kM (P:=fun s=>WA _ _ _ s _) (v:=LV i it ip (some ring) (some rounds) (some (.int w)) (some (.str (tx t))) (some (.str aJ)) (some (.ref r)) (some (.ref re)) (some (.str (tx (iQ w t)))) hd bd' pl) (H:=H++[PO.list (aB (jK t))]++[.list (dH (lY w t))]) rfl ?_;ext;refine tL (ls:=lY w t) g0 (by exact aq (by assumption) (ax _ _)) ?_;rw [←O.enc];ext;obtain e0:(tx (iQ w t) != tx (iQ w t))=false:=by simp
 rw [e0];ext;refine mP (n:=n+1) (L:=cR (tx (iQ w t))) SD O.d1 (mO _) O.d2 O.d3 ?_;walk_at "I J4,";rw [O.dec];ext;obtain e1:(tx t != tx t)=false:=by simp
 rw [e1];ext;rw [vS];exact h _
end
end
section
section
open PySem.SeqAt
variable {H:List PO}{KF:Fl→St→Prop}{bd' cd hd pl:Option PV}{i ip it r re w:Nat}{ring rounds:PV}{t:List Nat}{zz:Zs}
variable {C:Cx} {st:St} {K:PV→St→Prop} {n:Nat}
def gQ (c:Nat):Bool:= !Txt.contains "ab" (dO c)
def fF (c:Nat):Bool:= !Txt.contains "ab. \t" (dO c)
theorem mI (p:Nat→Bool): ∀t:List Nat,(t.map fun c=>PV.str (dO c)).filterMap (fun q=>match q with| .str z=>if p (z.cps.getD 0 0)=true then some (.str z) else none|_=>none)=aB ((t.filter p).map dO):=by
 intro zi;induction zi with
 |nil=>exact rfl
 |cons c t ih=>
  rw [bg,ge,c9,ih];have e:(dO c).cps.getD 0 0=c:=rfl;cases h:p c with
  |true=>simp only [e,h,if_true,bg];rfl
  |false=>simp only [e,h,bu,if_false]
theorem turn2 (hn:C.A.handled=none) (SD:bS (LC C zz) (n+3)) (O:fE w t)
  (h: ∀J a A,A.Perm ((t.filter jL).map dO)→sortedS A=true→(H++J)[a]? =some (.list (aB A))→KF .next ⟨LV i it ip (some ring) (some rounds) (some (.int w)) (some (.str (tx t))) (some (.str aJ)) (some (.ref r)) (some (.ref re)) cd (some (.ref a)) bd' pl,H++J⟩):
  W1 (LC C zz) (rG 2) ⟨LV i it ip (some ring) (some rounds) (some (.int w)) (some (.str (tx t))) (some (.str aJ)) (some (.ref r)) (some (.ref re)) cd hd bd' pl,H⟩
   KF:=by
 have QL:=oC hn (zz:=zz);obtain hl:=O.len;refine s_assign ?_ rfl rfl (by rfl);ext;refine bM ["sign"] SD QL 14 (by kernel_rfl) (cT QL ?_);ext;obtain ⟨nx,hpi,hnx⟩:=(lO.str (H:=H) (tx t)).pi (v:=LV i it ip (some ring) (some rounds) (some (.int w)) (some (.str (tx t))) (some (.str aJ)) (some (.ref r)) (some (.ref re)) cd hd bd' pl) QL;refine ⟨nx,hpi,rfl,t.map (fun c=>PV.str (dO c)),fun q=>match q with| .str z=>if jL (z.cps.getD 0 0)=true then some (.str z) else none|_=>none,by simp;exact aC (by exact aq (by assumption) (ax _ _)),hnx,?_,?_⟩
 ·intro L' SB QB q acc hq
  obtain ⟨c,hc,rfl⟩:=ap.mp hq;refine pa_name rfl rfl ?_;refine wi_one (cY ?_);ext;refine yS rfl ?_;ext;refine iN (k:=c) (n:=n+2) SB (O.lt c hc) ?_;ext;refine aY (fun h4=>?_) (fun h4=>?_)
  ·ext
   exact ⟨if_pos h4,trivial,cU.now fun j w=>aF rfl⟩
  ·exact ⟨if_neg (by show ¬jL c=true;delta jL;rw [h4];exact cr),cU.now fun j w=>aF rfl⟩
 rw [mI];ext;obtain hfl:=bw jL t;refine gP (l:=(t.filter jL).map dO) g0 (by rw [bl];exact aW 0x260008090c98814841 1057 [_,_] hl hfl) fun A hp hs=>?_;simp only [aa,aj,er];exact h [.list (aB ((t.filter jL).map dO)), .list (aB A)] (H.length+1) A hp hs (by rw [cK];rfl)
theorem Op (hn:C.A.handled=none) (SD:bS (LC C zz) (n+3)) (O:fE w t)
  (h: ∀J a A,A.Perm ((t.filter iB).map dO)→sortedS A=true→(H++J)[a]? =some (.list (aB A))→KF .next ⟨LV i it ip (some ring) (some rounds) (some (.int w)) (some (.str (tx t))) (some (.str aJ)) (some (.ref r)) (some (.ref re)) cd hd (some (.ref a)) pl,H++J⟩):
  W1 (LC C zz) (rG 3) ⟨LV i it ip (some ring) (some rounds) (some (.int w)) (some (.str (tx t))) (some (.str aJ)) (some (.ref r)) (some (.ref re)) cd hd bd' pl,H⟩
   KF:=by
 have QL:=oC hn (zz:=zz);obtain hl:=O.len;refine s_assign ?_ rfl rfl (by rfl);ext;refine bM ["sign"] SD QL 14 (by kernel_rfl) (cT QL ?_);ext;obtain ⟨nx,hpi,hnx⟩:=(lO.str (H:=H) (tx t)).pi (v:=LV i it ip (some ring) (some rounds) (some (.int w)) (some (.str (tx t))) (some (.str aJ)) (some (.ref r)) (some (.ref re)) cd hd bd' pl) QL;refine ⟨nx,hpi,rfl,t.map (fun c=>PV.str (dO c)),fun q=>match q with| .str z=>if iB (z.cps.getD 0 0)=true then some (.str z) else none|_=>none,by simp;exact aC (by exact aq (by assumption) (ax _ _)),hnx,?_,?_⟩
 ·intro L' SB QB q acc hq
  obtain ⟨c,hc,rfl⟩:=ap.mp hq;refine pa_name rfl rfl ?_;refine wi_one (cY ?_);ext;refine yS rfl ?_;ext;refine kI (k:=c) (n:=n+2) SB (O.lt c hc) ?_;ext;refine aY (fun h4=>?_) (fun h4=>?_)
  ·ext
   exact ⟨if_pos h4,trivial,cU.now fun j w=>aF rfl⟩
  ·exact ⟨if_neg (by show ¬iB c=true;delta iB;rw [h4];exact cr),cU.now fun j w=>aF rfl⟩
 rw [mI];ext;obtain hfl:=bw iB t;refine gP (l:=(t.filter iB).map dO) g0 (by rw [bl];exact aW 0x260008090c98814841 1057 [_,_] hl hfl) fun A hp hs=>?_;simp only [aa,aj,er];exact h [.list (aB ((t.filter iB).map dO)), .list (aB A)] (H.length+1) A hp hs (by rw [cK];rfl)
theorem Nr {KF:Fl→St→Prop} {i it ip r re:Nat} {ring rounds:PV} {w:Nat} {t:List Nat} {cd hd bd' pl:Option PV} {H:List PO} {zz:Zs} (hn:C.A.handled=none) (SD:bS (LC C zz) (n+3)) (O:fE w t)
  (h: ∀J p a b A B,A.Perm ((t.filter gQ).map dO)→sortedS A=true→B.Perm ((t.filter fF).map dO)→sortedS B=true→(H++J)[p]? =some (.list [.ref a, .ref b])→(H++J)[a]? =some (.list (aB A))→(H++J)[b]? =some (.list (aB B))→KF .next ⟨LV i it ip (some ring) (some rounds) (some (.int w)) (some (.str (tx t))) (some (.str aJ)) (some (.ref r)) (some (.ref re)) cd hd bd' (some (.ref p)),H++J⟩):
  W1 (LC C zz) (rG 4) ⟨LV i it ip (some ring) (some rounds) (some (.int w)) (some (.str (tx t))) (some (.str aJ)) (some (.ref r)) (some (.ref re)) cd hd bd' pl,H⟩
   KF:=by
 walk_at "T C,n,KF,i,it,ip,r,re,ring,rounds,w,t,cd,hd,bd',pl H,zz hn SD O h";have QL:=oC hn (zz:=zz);have hl:=O.len;refine s_assign ?_ rfl rfl (by rfl);ext;refine bM ["sign"] SD QL 14 (by kernel_rfl) (cT QL ?_);ext;obtain ⟨nx,hpi,hnx⟩:=(lO.str (H:=H) (tx t)).pi (v:=LV i it ip (some ring) (some rounds) (some (.int w)) (some (.str (tx t))) (some (.str aJ)) (some (.ref r)) (some (.ref re)) cd hd bd' pl) QL;refine ⟨nx,hpi,rfl,t.map (fun c=>PV.str (dO c)),fun q=>match q with| .str z=>if gQ (z.cps.getD 0 0)=true then some (.str z) else none|_=>none,by simp;exact aC (by exact aq (by assumption) (ax _ _)),hnx,?_,?_⟩
 ·intro L' SB QB q acc hq
  obtain ⟨c,hc,rfl⟩:=ap.mp hq;ext;refine aY (fun h4=>?_) (fun h4=>?_)
  ·ext
   exact ⟨if_pos h4,trivial,cU.now fun j w=>aF rfl⟩
  ·exact ⟨if_neg (by show ¬gQ c=true;delta gQ;rw [h4];exact cr),cU.now fun j w=>aF rfl⟩
 rw [mI];ext;obtain hfl:=bw gQ t;refine gP (l:=(t.filter gQ).map dO) g0 (by rw [bl];exact aW 0x260008090c98814841 1057 [_,_] hl hfl) ?_;walk_at "I A, hp hs";refine kM (P:=fun s=>WA _ _ _ s _) (v:=LV i it ip (some ring) (some rounds) (some (.int w)) (some (.str (tx t))) (some (.str aJ)) (some (.ref r)) (some (.ref re)) cd hd bd' pl) (H:=H++[PO.list (aB ((t.filter gQ).map dO))]++[.list (aB A)]) rfl ?_;obtain ho102: ∃H1,H1=H++[PO.list (aB ((t.filter gQ).map dO))]++[.list (aB A)]:=⟨_,rfl⟩;walk_at "E ho102 : H1, hH1";rw [←hH1];ext;refine bM ["sign"] SD QL 14 (by kernel_rfl) (cT QL ?_);ext;obtain ⟨nx,hpi,hnx⟩:=(lO.str (H:=H1) (tx t)).pi (v:=LV i it ip (some ring) (some rounds) (some (.int w)) (some (.str (tx t))) (some (.str aJ)) (some (.ref r)) (some (.ref re)) cd hd bd' pl) QL;refine ⟨nx,hpi,rfl,t.map (fun c=>PV.str (dO c)),fun q=>match q with| .str z=>if fF (z.cps.getD 0 0)=true then some (.str z) else none|_=>none,by simp;exact aC (by exact aq (by assumption) (ax _ _)),hnx,?_,?_⟩
 ·intro L' SB QB q acc hq
  obtain ⟨c,hc,rfl⟩:=ap.mp hq;ext;refine aY (fun h4=>?_) (fun h4=>?_)
  ·ext
   exact ⟨if_pos h4,trivial,cU.now fun j w=>aF rfl⟩
  ·exact ⟨if_neg (by show ¬fF c=true;delta fF;rw [h4];exact cr),cU.now fun j w=>aF rfl⟩
 rw [mI];ext;obtain hfl2:=bw fF t;refine gP (l:=(t.filter fF).map dO) g0 (by rw [bl];exact aW 0x260008090c98814841 1057 [_,_] hl hfl2) fun B hp2 hs2=>?_;ext;refine ⟨(by show 2≤100000;decide),?_⟩;subst hH1;simp only [aa,aj,er];exact h [.list (aB ((t.filter gQ).map dO)), .list (aB A), .list (aB ((t.filter fF).map dO)), .list (aB B), .list [.ref (H.length+1), .ref (H.length+3)]] (H.length+4) (H.length+1) (H.length+3) A B hp hs hp2 hs2 (by rw [cK];rfl) (by rw [cK];rfl) (by rw [cK];rfl)
end
end
section
section
open PySem.SeqAt
variable {A B:List Str}
variable {C:Cx} {st:St} {K:PV→St→Prop} {n:Nat}
structure kX (t:List Nat):Prop where
 ok: ∀c∈t,k6 (dO c)=true
 sld: ∀A B A' B' M,A.Perm ((t.filter jL).map dO)→sortedS A=true→B.Perm ((t.filter iB).map dO)→sortedS B=true→A'.Perm ((t.filter gQ).map dO)→sortedS A'=true→B'.Perm ((t.filter fF).map dO)→sortedS B'=true→
  M.Perm (mL A' B')→sortedS M=true→sld A B (A.length+B.length) 0 0 [] []=(M,[])
theorem Ea: ∀z∈mL A B,z∈A:=fun z hz=>by obtain ⟨k,hk,rfl⟩:=ap.mp hz;have hk:=bj.mp (bp.mp hk).1;rw [ao,ae hk];exact cg hk
theorem Og {KF:Fl→St→Prop} {i it ip r re ia ib ic ja jb:Nat} {ring rounds:PV} {w:Nat} {t:List Nat} {cd:Option PV} {A' B':List Str} {H:List PO} {zz:Zs} (hn:C.A.handled=none) (SD:bS (LC C zz) (n+3)) (O:fE w t) (Q:kX t)
  (hA:A.Perm ((t.filter jL).map dO)) (sA:sortedS A=true) (hB:B.Perm ((t.filter iB).map dO)) (sB:sortedS B=true) (hA':A'.Perm ((t.filter gQ).map dO)) (sA':sortedS A'=true) (hB':B'.Perm ((t.filter fF).map dO)) (sB':sortedS B'=true)
  (ga:H[ia]? =some (.list (aB A))) (gb:H[ib]? =some (.list (aB B))) (gc:H[ic]? =some (.list [.ref ja, .ref jb])) (gja:H[ja]? =some (.list (aB A'))) (gjb:H[jb]? =some (.list (aB B')))
  (h: ∀J,KF .next ⟨LV i it ip (some ring) (some rounds) (some (.int w)) (some (.str (tx t))) (some (.str aJ)) (some (.ref r)) (some (.ref re)) cd (some (.ref ia)) (some (.ref ib)) (some (.ref ic)),H++J⟩):
  W1 (LC C zz) (rG 5) ⟨LV i it ip (some ring) (some rounds) (some (.int w)) (some (.str (tx t))) (some (.str aJ)) (some (.ref r)) (some (.ref re)) cd (some (.ref ia)) (some (.ref ib)) (some (.ref ic)),H⟩
   KF:=by
 have QL:=oC hn (zz:=zz);obtain hl:=O.len;have len {X:List Str} {p:Nat→Bool} (h:X.Perm ((t.filter p).map dO)):X.length≤12:=by rw [h.length_eq,bl];exact aq (bw _ _) hl
 have okX {X:List Str} {p:Nat→Bool} (h:X.Perm ((t.filter p).map dO)): ∀z∈X,k6 z=true:=fun z hz=>by obtain ⟨c,hc,rfl⟩:=ap.mp (h.mem_iff.mp hz);exact Q.ok c (bp.mp hc).1
 have lA:=len hA;have lB:=len hB;have lA':=len hA';have lB':=len hB';refine s_if ?_;ext;refine Ku (n:=n+2) SD ga gb (by exact aq (by assumption) (ax _ _)) (by exact aq (by assumption) (ax _ _)) fun J1 R hd=>?_;ext;refine kM (P:=fun s=>PG _ _ _ s _) (v:=LV i it ip (some ring) (some rounds) (some (.int w)) (some (.str (tx t))) (some (.str aJ)) (some (.ref r)) (some (.ref re)) cd (some (.ref ia)) (some (.ref ib)) (some (.ref ic))) (H:=H++J1) rfl ?_;refine gO (xs:=[.ref ja, .ref jb]) (p:= .ref ja) (old_get gc) ⟨by decide,by decide⟩ (by decide) rfl ?_;ext;refine gO (xs:=[.ref ja, .ref jb]) (p:= .ref jb) (old_get gc) ⟨by decide,by decide⟩ (by decide) rfl ?_;ext;refine pK (n:=n+2) SD (old_get gja) (old_get gjb) (by exact co (by assumption) (by decide)) (by exact co (by assumption) (by decide)) (okX hB') fun J2 M hp hs=>?_;obtain e:=Q.sld A B A' B' M hA sA hB sB hA' sA' hB' sB' hp hs;rw [e] at hd;obtain okM: ∀z∈M,k6 z=true:=fun z hz=>okX hA' z (Ea z (hp.mem_iff.mp hz));refine kM (P:=fun s=>WA _ _ _ s _) (v:=LV i it ip (some ring) (some rounds) (some (.int w)) (some (.str (tx t))) (some (.str aJ)) (some (.ref r)) (some (.ref re)) cd (some (.ref ia)) (some (.ref ib)) (some (.ref ic))) (H:=H++J1++J2++[.list (aB M)]) rfl ?_;ext;refine ⟨by decide,?_⟩;ext;refine ⟨(by show 2≤100000;decide),?_⟩;obtain gM:(H++J1++J2++[PO.list (aB M)])[(H++J1).length+J2.length]? =some (.list (aB M)):=by rw [←aj];exact g0
 refine lM SD (d:= .tuple [.list (M.map .str), .list []]) hd.app.app.app.app (.tuple g0 (.cons (mK _ (old_get (old_get gM))) (.cons (.list (old_get g0) .nil) .nil))) ?_ ?_
 ·delta shaped
  rw [bt];refine ⟨?_,?_⟩
  ·simp only [md,ig,mY okM,qw]
  ·have:=kG M
   rw [decide_eq_true_eq];simp only [j0,i5];exact aQ 0x240008095050d6810a0a0085050190501 0x1004000000108001 [_] this
 ext;rw [Ot];exact h _
end
end
section
section
open PySem.SeqAt
variable {H:List PO}{R:List (List Nat)}{lo r:Nat}{ps:List PV}
variable {C:Cx} {st:St} {K:PV→St→Prop} {n:Nat}
def Jg (texts:List (List Nat)):PV→PV
 | .int k=> .str (tx (texts.getD k.toNat []))
 |_=> .none
def Ap (H:List PO) (texts:List (List Nat)):PV→List PV
 | .ref i=>match H[i]? with
  |some (.list xs)=>xs.map (Jg texts)
  |_=>[]
 |_=>[]
theorem yD {texts:List (List Nat)} (h:RA lo r H ps R):ps.flatMap (Ap H texts)=aB ((R.flatten.map fun k=>texts.getD k []).map tx):=by
 induction h with
 |nil=>rfl
 |@cons i row ps rows a _ _ _ ih=>
  rw [cx,ih,br,bv,bv];obtain e:Ap H texts (.ref i)=aB ((row.map fun k=>texts.getD k []).map tx):=by delta Ap;simp only [a,dI,cw,aB];refine gv fun k _=>?_;show PV.str (tx (texts.getD ((k:Int)).toNat []))=_;rw [bo];rfl
  rw [e];simp [aB]
theorem Ky (h:RA lo r H ps R): ∀q∈ps, ∃i row,q= .ref i∧row∈R∧H[i]? =some (.list (pn row)):=by
 induction h with
 |nil=>intro q hq;cases hq
 |@cons i row ps rows a _ _ _ ih=>
  intro q hq;rcases ar.mp hq with rfl|hq
  ·exact ⟨i,row,rfl, .head _,a⟩
  ·refine nn fun gg=>?_
   obtain ⟨j,row',e,m,g⟩:=ih q hq;refine gg ?_;exact ⟨j,row',e, .tail _ m,g⟩
inductive L11 (i it ip:Nat) (ring:PV) (x w r re:Nat) (H:List PO) (Ls:List (List Nat)) (k:Nat) (s:St):Prop
 |mk (tv cd hd bd pl:Option PV) (J:List PO) (e:s=⟨LV i it ip (some ring) (some (.ref x)) (some (.int w)) tv (some (.str aJ)) (some (.ref r)) (some (.ref re)) cd hd bd pl,H++[.list (aB (Ls.map tx))]++J⟩):L11 i it ip ring x w r re H Ls k s
theorem Ob {KF:Fl→St→Prop} {i it ip r re x lo rr:Nat} {ring:PV} {w:Nat} {ps:List PV} {R texts:List (List Nat)} {H:List PO} {zz:Zs} (hn:C.A.handled=none) (SD:bS (LC C zz) (n+3)) (hw:4≤w) (hw2:w≤1000)
  (hx:H[x]? =some (.list ps)) (hra:RA lo rr H ps R) (h4: ∀row∈R, ∀k∈row,k<4) (hz:R.flatten.length≤1000) (ht:H[it]? =some (.list (aB (texts.map tx)))) (hl:texts.length=4) (hO: ∀t∈texts,fE w t∧kX t)
  (h: ∀v J,KF .next ⟨v,H++J⟩):
  W1 (LC C zz) (jJ 11) ⟨LV i it ip (some ring) (some (.ref x)) (some (.int w)) none (some (.str aJ)) (some (.ref r)) (some (.ref re)) none none none none,H⟩
   KF:=by
 walk_at "T C,n,KF,i,it,ip,r,re,x,lo,rr,ring,w,ps,R,texts H,zz hn SD hw hw2 hx hra h4 hz ht hl hO h";have QL:=oC hn (zz:=zz);have hxl:=(af.mp hx).1;refine hV QL (cT QL ?_);refine Er ["row","k"] SD QL 14 (by kernel_rfl) (cT QL ?_);ext;refine ⟨_,cN QL hx,rfl,ps,Ap H texts,?_,?_,?_,?_⟩
 ·rw [yD hra];simp only [aB,bl];exact aC (by exact aq (by assumption) (ax _ _))
 ·intro k t'
  delta iS;rw [old_get hx]
 ·walk_at "I L', SB QB q,acc hq"
  refine nn ?_;walk_at "I gg";obtain ho54:=Ky hra q hq;walk_at "E ho54 : j,row rfl hrow hj";refine gg ?_;obtain hjl:=(af.mp hj).1;ext;refine cT QB ?_;ext;refine ⟨_,cN QB (old_get hj),cU.now fun j w=>aF rfl,pn row,Jg texts,?_,?_,?_,?_⟩
  ·delta Ap;simp only [hj]
  ·walk_at "I y, hy"
   delta Ap at hy;simp only [hj,dI,cw] at hy;obtain ho65:=ap.mp hy;walk_at "E ho65 : k, _ rfl";trivial
  ·intro k acc'
   delta iS;rw [gn (gm hjl) (old_get hj)]
  ·walk_at "I q2,acc' hq2"
   rw [dI] at hq2;obtain ⟨k,hk,rfl⟩:=ap.mp hq2;obtain hk4:=h4 row hrow k hk;ext;refine gO (xs:=aB (texts.map tx)) (p:= .str (tx (texts.getD k []))) (gn (gm (af.mp ht).1) (old_get ht)) ⟨by exact bi _,by lia⟩ (by exact bi _) ?_ ?_
   ·rw [bo]
    simp only [aB,cw,b8];rw [ae (by simp_all),ao,ae (by simp_all)];rfl
   ·exact ⟨by show _=PV.str (tx (texts.getD ((k:Int)).toNat []));rw [bo],trivial,cU.now fun j w=>aF rfl⟩
 rw [yD hra];generalize hLs:R.flatten.map (fun k=>texts.getD k [])=Ls;obtain hLO: ∀t∈Ls,fE w t∧kX t:=by walk_at "I t, ht'";rw [←hLs] at ht';obtain ho86:=ap.mp ht';walk_at "E ho86 : k, hk rfl";obtain ho88:=j4.mp hk;walk_at "E ho88 : row, hrow hk";have hk4:=h4 row hrow k hk;rw [ao,ae (by simp_all)];exact hO _ (cg _)
 try dsimp only
 refine ⟨_,cN QL g0,L11 i it ip ring x w r re H Ls,Ls.length,?_,?_,?_,?_,?_⟩
 ·exact ⟨none,none,none,none,none,[],by simp⟩
 ·rintro k _ q ⟨tv,cd,hd,bd,pl,J,rfl⟩ hq
  delta iS at hq;rw [old_get (g0 (h:=H))] at hq;have:=(af.mp (ba hq)).1;simpa [aB] using this
 ·walk_at "I k,z101b1,q hr101a hq"
  obtain ⟨tv,cd,hd,bd,pl,J,rfl⟩:=hr101a;delta iS at hq;rw [old_get (g0 (h:=H))] at hq;have hq:=ba hq;obtain ⟨t,hmem,rfl⟩: ∃t,t∈Ls∧q= .str (tx t):=by obtain hm:=fh hq;obtain ho108:=ap.mp hm;walk_at "E ho108 : z, hz' rfl";obtain ho110:=ap.mp hz';walk_at "E ho110 : t, h1 rfl";exact ⟨t,h1,rfl⟩
  obtain ho113:=hLO t hmem;walk_at "E ho113 : O Q";refine pa_name rfl rfl ?_;refine kM (P:=fun s=>WS _ _ s _) (v:=LV i it ip (some ring) (some (.ref x)) (some (.int w)) (some (.str (tx t))) (some (.str aJ)) (some (.ref r)) (some (.ref re)) cd hd bd pl) (H:=H++[.list (aB (Ls.map tx))]++J) rfl ?_;refine s_cons (Nn SD hw hw2 O fun J0=>?_)
  try dsimp only
  refine s_cons (Np hn SD hw hw2 O fun J1=>?_)
  try dsimp only
  refine s_cons (turn2 hn SD O fun J2 ia A hA sA gA=>?_)
  try dsimp only
  refine s_cons (Op hn SD O fun J3 ib B hB sB gB=>?_)
  try dsimp only
  refine s_cons (Nr hn SD O fun J4 ic ja jb A' B' hA' sA' hB' sB' gC gA' gB'=>?_)
  try dsimp only
  refine s_cons (Og hn SD O Q hA sA hB sB hA' sA' hB' sB' (old_get (old_get gA)) (old_get gB) gC gA' gB' fun J5=>?_)
  try dsimp only
  refine s_nil (.inl ⟨some (.str (tx t)),some (.str (tx (iQ w t))),some (.ref ia),some (.ref ib),some (.ref ic),J++(J0++(J1++(J2++(J3++(J4++J5))))),?_⟩);rw [Rb]
 ·rintro k _ ⟨tv,cd,hd,bd,pl,J,rfl⟩
  delta iS;rw [old_get (g0 (h:=H))];simp
 ·walk_at "I k z134b1 hr134a hq"
  obtain ⟨tv,cd,hd,bd,pl,J,rfl⟩:=hr134a;rw [aa];exact h _ _
end
end
section
section
open PySem.SeqAt
variable {H:List PO}{KF:Fl→St→Prop}{i ip it:Nat}{ring rounds:PV}{zz:Zs}
variable {C:Cx} {st:St} {K:PV→St→Prop} {n:Nat}
theorem Ph {xs:List Int} (SD:bS (LC C zz) (n+3)) (hi:fL C.K i xs) (hz:xs.length≤63)
  (h: ∀w:Nat,4≤w→w≤10→ ∀J,KF .next ⟨LV i it ip (some ring) (some rounds) (some (.int w)) none none none none none none none none,H++J⟩):
  W1 (LC C zz) (jJ 4) ⟨LV i it ip (some ring) (some rounds) none none none none none none none none none,H⟩
   KF:=by
 refine s_assignC ?_ rfl rfl (by rfl) (by rfl) (by rfl);ext;refine rV rfl rfl hi (by simp [aI,big];exact aq (by assumption) (ax _ _)) ?_;ext;rw [show bH (aI xs) none (some 4)=aI (xs.take 4) from by rw [show (some (4:Int))=some ((4:Nat):Int) from rfl,iA];simp [aI]];refine Kv SD g0 ?_;ext;have h7:=cX (xs.take 4).sum (m:=7) (by decide);have h7:0≤(xs.take 4).sum.fmod 7∧(xs.take 4).sum.fmod 7<7:=h7;obtain e:(4+(xs.take 4).sum.fmod 7:Int)=((4+(xs.take 4).sum.fmod 7).toNat:Int):=(oo (by lia)).symm;have h:=h (4+(xs.take 4).sum.fmod 7).toNat (by lia) (by lia) [.list (aI (xs.take 4))];rw [←e] at h;exact h
theorem Pf {w:Nat} (h:KF .next ⟨LV i it ip (some ring) (some rounds) (some (.int w)) none (some (.str aJ)) none none none none none none,H⟩):
  W1 (LC C zz) (jJ 6) ⟨LV i it ip (some ring) (some rounds) (some (.int w)) none none none none none none none none,H⟩
   KF:=by
 refine s_assignC ?_ rfl rfl (by rfl) (by rfl) (by rfl);ext;rw [wP];exact h
theorem Es (l:List Int):l.map cD=(l.map fun x=>(cD x).cps.toList).map tx:=by rw [cw];exact gv fun x _=>(mC _).symm
set_option maxHeartbeats 2000000 in
theorem Eg {i:Addr} {xs:List Int} {H:List PO} {KF:Fl→St→Prop} {zz:Zs} (hn:C.A.handled=none) (SD:bS (LC C zz) (n+9)) (Y:KnC C.K) (Z:uZ C.K) (hi:fL C.K i xs) (hz:xs.length≤63)
  {R:List (List Nat)} (hR:pQ (sP (dL xs)) 6 (cP (dL xs),dC 4 (cP (dL xs))) R)
  (hc:cV (sP (dL xs)) 1000 (am 4) (fun _=>false)=decide ((dK (bV (bU xs) 4)).length<4))
  (hr:R=(bO (dK (bV (bU xs) 4)) (bC (bU xs) 4)).filter fun r=> !r.isEmpty)
  (hO: ∀x∈aV xs, ∀w,4≤w→w≤10→fE w (cD x).cps.toList∧kX (cD x).cps.toList)
  (h: ∀v J,KF (.ret (.bool true)) ⟨v,H++J⟩):
  WS (LC C zz) (aX (aD 40)) ⟨some (.glob (.ref i))::lK.map (fun _=>none),H⟩ KF:=by
 walk_at "T C,n,i,xs,H,KF,zz hn SD Y Z hi hz R, hR hc hr hO h";refine s_cons ?_;ext;refine rP (n:=n+8) SD hi hz ?_;walk_at "I J1,"
 try dsimp only
 ext;refine sY (n:=n+8) SD hi hz ?_;walk_at "I J2,"
 try dsimp only
 obtain ho48: ∃H2,H2=H++J1++[PO.list (aB ((aV xs).map cD))]++J2++ .list (cQ ((H++J1++[PO.list (aB ((aV xs).map cD))]).length+J2.length+1) (bU xs).length)::nM (bU xs):=⟨_,rfl⟩;walk_at "E ho48 : H2, hH2";have eL:(H++J1++[PO.list (aB ((aV xs).map cD))]).length+J2.length=(H++J1++[PO.list (aB ((aV xs).map cD))]++J2).length:=by rw [aj (bs:=J2)]
 rw [←hH2];rw [eL] at hH2 ⊢;have hP2:fA H2 (H++J1++[PO.list (aB ((aV xs).map cD))]++J2).length (bU xs):=by rw [hH2];exact uT
 have ht2:H2[H.length+J1.length]? =some (.list (aB ((aV xs).map cD))):=by rw [hH2];refine old_get (old_get ?_);rw [←aj];exact g0
 have h2: ∀v J,KF (.ret (.bool true)) ⟨v,H2++J⟩:=by intro v J;rw [hH2];rw [Ot];exact h _ _
 generalize (H++J1++[PO.list (aB ((aV xs).map cD))]++J2).length=ip at*;generalize H.length+J1.length=it at*;clear hH2 eL h;ext;rw [←kL] at hP2;refine kM (P:=fun s=>PC _ _ _ s _) (v:=LV i it ip none none none none none none none none none none none) rfl ?_;refine xJ (n:=n) SD Y Z hP2 (uU xs) (aq (rC xs) (by decide)) hR ?_;walk_at "I J3,t,x,ps,lo,r ht hx hra";rw [kL] at hP2;rw [hc] at ht;clear hR hc;dsimp only at ht hx hra ⊢;refine pas_cons (yM hn ht ?_ (by rfl));ext;refine ⟨(by show 2≤100000;decide),?_⟩;ext;generalize hb0:decide ((dK (bV (bU xs) 4)).length<4)=rg at ht;refine kM (P:=fun s=>PC _ _ _ s _) (v:=LV i it ip (some (.bool rg)) (some (.ref x)) none none none none none none none none none) rfl ?_;refine uQ (n:=n+8) SD (hP2.app.app) ?_;walk_at "I J4,q hd";rw [←hr,hb0] at hd;refine lM SD (d:= .tuple [.bool rg,Fy R]) ?_ hd (tY _ _) ?_
 ·refine .tuple (old_get g0) (.cons (.bool _) (.cons (.list (old_get (old_get hx)) ?_) .nil))
  exact (hra.fx fun i o _ _ e=>old_get (old_get e)).deep
 have hra3:=(hra.fx (H':=H2++J3++[PO.tuple [PV.bool rg,PV.ref x]]++J4) fun i o _ _ e=>old_get (old_get e));have hx3:=old_get (J:=J4) (old_get (J:=[PO.tuple [PV.bool rg,PV.ref x]]) hx);have ht3:=old_get (J:=J4) (old_get (J:=[PO.tuple [PV.bool rg,PV.ref x]]) (old_get (J:=J3) ht2));have h3: ∀v J,KF (.ret (.bool true)) ⟨v,H2++J3++[PO.tuple [PV.bool rg,PV.ref x]]++J4++J⟩:=by intro v J;rw [Pe];exact h2 _ _
 generalize hH3:H2++J3++[PO.tuple [PV.bool rg,PV.ref x]]++J4=H3 at hra3 hx3 ht3 h3;clear hra hx ht2 h2 ht hd hP2;refine kM (P:=fun s=>PT _ _ s _) (v:=LV i it ip (some (.bool rg)) (some (.ref x)) none none none none none none none none none) rfl ?_;clear hH3;refine pt_bool (ite_ff (s_nil ?_))
 try dsimp only
 (with_reducible refine s_cons ?_)
 refine (?_:W1 (LC C zz) (jJ 4) _ _)
 with_reducible refine Ph SD hi hz fun w hw hw2 J5=>?_
 try dsimp only
 (with_reducible refine s_cons ?_)
 refine (?_:W1 (LC C zz) (jJ 5) _ _)
 with_reducible refine Qa hn SD hw (by exact aq (by assumption) (ax _ _)) fun J6=>?_
 try dsimp only
 (with_reducible refine s_cons ?_)
 refine (?_:W1 (LC C zz) (jJ 6) _ _)
 with_reducible refine Pf ?_
 try dsimp only
 (with_reducible refine s_cons ?_)
 refine (?_:W1 (LC C zz) (jJ 7) _ _)
 with_reducible refine Pv hn SD fun J7 r7 a7 b7 g1 g2 g3=>?_
 try dsimp only
 (with_reducible refine s_cons ?_)
 refine (?_:W1 (LC C zz) (jJ 8) _ _)
 with_reducible refine Pj hn SD g1 g2 g3 fun J8=>?_
 try dsimp only
 (with_reducible refine s_cons ?_)
 refine (?_:W1 (LC C zz) (jJ 9) _ _)
 with_reducible refine Ps hn SD ?_
 try dsimp only
 (with_reducible refine s_cons ?_)
 refine (?_:W1 (LC C zz) (jJ 10) _ _)
 with_reducible refine Nu hn SD g0 fun J10=>?_
 try dsimp only
 rw [Es] at ht3;obtain hR4: ∀row∈R, ∀k∈row,k<4:=by rw [hr];intro row hrow k hk;obtain ⟨hh,_,rfl⟩:=ap.mp (bp.mp hrow).1;exact bj.mp (bp.mp (bp.mp hk).1).1
 obtain hRz:R.flatten.length≤1000:=by
  obtain h1: ∀row∈R,row.length≤4:=by rw [hr];intro row hrow;obtain ⟨hh,_,rfl⟩:=ap.mp (bp.mp hrow).1;exact aq (bw _ _) (bw _ _)
  obtain h2:R.length≤4:=by rw [hr];refine aq (bw _ _) ?_;delta bO;simp
  have:=pH h1;exact aW 0x9001f424322205224441 4129 [_,_] h2 this
 obtain hN4:(aV xs).length=4:=by delta aV;rw [aj,f8,gy];show min 4 xs.length+(4 - min 4 xs.length)=4;exact jP 0x508852d812208860488 0x401000210000100001000200002008001004010000100001080010002100001000010000100001 [_]
 (with_reducible refine s_cons ?_)
 refine (?_:W1 (LC C zz) (jJ 11) _ _)
 with_reducible refine Ob (texts:=(aV xs).map fun x=>(cD x).cps.toList) hn SD hw (by exact aq (by assumption) (ax _ _)) (old_get (old_get (old_get (old_get (old_get (old_get hx3)))))) (hra3.fx fun i o _ _ e=>old_get (old_get (old_get (old_get (old_get (old_get e)))))) hR4 hRz (old_get (old_get (old_get (old_get (old_get (old_get ht3)))))) (by rw [bl];exact hN4) (fun t ht'=>?_) fun v11 J11=>?_
 ·obtain ⟨y,hy,rfl⟩:=ap.mp ht'
  exact hO y hy w hw hw2
 try dsimp only
 refine s_cons ?_;ext;rw [Rb];exact h3 _ _
end
end
section
section
variable {w:aw} {s:az} {K:Frag} {b:Addr} {xs:List Int} {Q E:ak→az→Prop}
def C0 (w:aw) (K:Frag) (s:az):Cx:=⟨w,callerA,default,fun _ _=>False,K,s.gens,s.drawn,s.os,[],[],s.heap.objs.size⟩
theorem Bn (KX:lH K s.heap) (kt:260≤s.heap.objs.size) (ktop: ∀a o,K.lookup a=some o→a<s.heap.objs.size) (kn:Kn K) (Y:KnC K) (Z:uZ K) (hS:fL K b xs) (hz:xs.length≤63)
  {R:List (List Nat)} (hR:pQ (sP (dL xs)) 6 (cP (dL xs),dC 4 (cP (dL xs))) R)
  (hc:cV (sP (dL xs)) 1000 (am 4) (fun _=>false)=decide ((dK (bV (bU xs) 4)).length<4))
  (hr:R=(bO (dK (bV (bU xs) 4)) (bC (bU xs) 4)).filter fun r=> !r.isEmpty)
  (hO: ∀x∈aV xs, ∀w,4≤w→w≤10→fE w (cD x).cps.toList∧kX (cD x).cps.toList)
  (hQ: ∀s',(∀a o,s.heap.get? a=some o→s'.heap.get? a=some o)→s'.gens=s.gens→s'.os=s.os→Q (.bool true) s'):
  bx (model pw w) callerA (call (.ref 259) [.ref b]) Q E s:=by
 walk_at "T w,s,K,b,xs,Q,E KX kt ktop kn Y Z hS hz R, hR hc hr hO hQ";refine nn ?_;walk_at "I gg";obtain ⟨oc,od,osl,name,qual,kV,doc,pm,an,cdv,ct,hK,hcd⟩:=kn.f_law.2.2;refine gg ?_;refine wpAny_call ?_;refine codeAny_call_function (fd:=fnOf name qual (aP (aD 40)) (aX (aD 40)) (aU (aD 40)) .none kV doc pm an cdv ct) (by decide) (KX.KX _ _ hK) rfl (by rfl) (by rfl) rfl (codeRec_of KX.KX hcd) ?_;have hb:bindArgs (fnOf name qual (aP (aD 40)) (aX (aD 40)) (aU (aD 40)) .none kV doc pm an cdv ct) ⟨[fv b],[]⟩=pure [(("script":Str),fv b)]:=rfl;refine dy hb ?_;have hk:(aU (aD 40)).kind= .function:=rfl;refine wpAny_newFunctionEnv_cells hk (fun z hz=>?_) fun env he s' I=>?_
 ·rw [bk] at hz;subst hz;exact .inl (by rfl)
 have he':env=callEnvC (fnOf name qual (aP (aD 40)) (aX (aD 40)) (aU (aD 40)) .none kV doc pm an cdv ct) s.heap.objs.size 259:=he;subst he';refine nn ?_;walk_at "I gg";obtain ⟨h',tk,rfl,hkeep⟩:=I.done;refine gg ?_;refine ⟨KX.lim.keeps hkeep,codeAny_func ?_⟩;have hfr: ∀a,s.heap.objs.size≤a→s.heap.get? a=none:=fun a ha=>by
  cases e:s.heap.get? a with
  |none=>rfl
  |some o=>exact absurd (dc e) (fe.mpr ha)
 have hnc:(bD (aU (aD 40))).Nodup:=by decide+kernel
 have hcabove: ∀n c,(n,c)∈(callEnvC (fnOf name qual (aP (aD 40)) (aX (aD 40)) (aU (aD 40)) .none kV doc pm an cdv ct) s.heap.objs.size 259).cells→s.heap.objs.size<c:=fun n c h=>I.above n c h;have hpabove: ∀p∈(callEnvC (fnOf name qual (aP (aD 40)) (aX (aD 40)) (aU (aD 40)) .none kV doc pm an cdv ct) s.heap.objs.size 259).locals::(callEnvC (fnOf name qual (aP (aD 40)) (aX (aD 40)) (aU (aD 40)) .none kV doc pm an cdv ct) s.heap.objs.size 259).cells.map (·.2),s.heap.objs.size≤p:=fun p hp=>by
  rcases ar.mp hp with rfl|hp
  ·exact ay _
  ·obtain ⟨⟨n,c⟩,hm,rfl⟩:=ap.mp hp;exact de (hcabove n c hm)
 have hfs: ∀q,q∈(LC (C0 w K s) ⟨name,qual,kV,doc,pm,an,cdv,ct,s.heap.objs.size⟩).fs↔q=s.heap.objs.size:=fun q=>bk;have z:Mt (LC (C0 w K s) ⟨name,qual,kV,doc,pm,an,cdv,ct,s.heap.objs.size⟩) h' [] [] ⟨some (.glob (.ref b))::lK.map (fun _=>none),[]⟩ {s with heap:=h',toks:=tk}:=by
  refine ⟨⟨hk,rfl,rfl,?_,fun a ha=>hpabove a (bZ ha),⟨kt,ktop⟩,qP,fun q hq=>dg ((hfs q).mp hq).symm,⟨_,[],rfl,rfl,fun q hq=>?_⟩⟩,KX.keeps hkeep,⟨rfl,me,fun i a o e=>by simp at e⟩,⟨_,I.toInCall.ns,fun n i u hl hg=>?_⟩,fun n _ c hc=>⟨_,I.cell n c hc⟩,fun p hp=>?_,
   fun p hp hm=>(dv hm).elim,fun b o e _ _ _=>e,fun a ha=>(dv ha).elim,mq _,fun a ha=>(dv ha).elim,rfl,rfl,rfl,⟨fun q hq=>?_,fun q _ hm=>(dv hm).elim,fun q hq w o e=>⟨o.slots,e⟩⟩⟩
  ·refine eg.mpr ⟨fun hm=>?_,?_⟩
   ·refine nn ?_
    walk_at "I gg";obtain ⟨⟨n,c⟩,hm,e⟩:=ap.mp hm;refine gg ?_;have e:c=s.heap.objs.size:=e;exact ci _ (e▸hcabove n c hm)
   ·exact jw.mpr I.apart
  ·rw [bk] at hq;subst hq;exact ⟨hk,_,rfl⟩
  ·have hl:=fJ hl
   cases i with
   |zero=>
    have hg:u= .glob (.ref b):=by cases hg;rfl
    have hl:n="script":=by have:(some ("script":Str))=some n:=hl;exact (ba this).symm
    subst hg hl;refine ⟨fv b,rfl,?_⟩;have hk':(callEnvC (fnOf name qual (aP (aD 40)) (aX (aD 40)) (aU (aD 40)) .none kV doc pm an cdv ct) s.heap.objs.size 259).kindOf "script"=some .local:=by rfl
    show eN (callEnvC (fnOf name qual (aP (aD 40)) (aX (aD 40)) (aU (aD 40)) .none kV doc pm an cdv ct) s.heap.objs.size 259) h' _ _ _;exact .loc hk' (uO (bs:=[(("script":Str),fv b)]) (i:=0) hk' (by simp) rfl)
   |succ i=>rw [kx,b8] at hg;cases e:lK[i]? <;>rw [e] at hg<;>cases hg
  ·rcases ar.mp hp with rfl|hp
   ·obtain ⟨o,_,_,e,_⟩:=I.toInCall.ns;exact ⟨o,e⟩
   ·refine nn ?_
    walk_at "I gg";obtain ⟨⟨n,c⟩,hm,rfl⟩:=ap.mp hp;refine gg ?_;obtain ⟨o,e,_⟩:=I.cell n c (dW (iP hnc) hm);exact ⟨o,e⟩
  ·rw [hfs] at hq;subst hq
   obtain ⟨o,_,_,e,d,_⟩:=I.toInCall.ns;exact ⟨o,e,fun vs q=>by rw [d] at q;cases q⟩
 have SD:bS (LC (C0 w K s) ⟨name,qual,kV,doc,pm,an,cdv,ct,s.heap.objs.size⟩) (0+9):=⟨rfl,by show (1+claimMargin)+1+(0+9)+1<recursionLimit;decide,by show 4+3+3*(0+9)+200<cLine;decide,kn⟩;have hb:=Eg (C:=C0 w K s) (H:=[]) (KF:=fun fl st=>fl= .ret (.bool true)) (n:=0) rfl SD Y Z hS hz hR hc hr hO (fun _ _=>rfl);refine bc (hb _ _ _ _ z) (fun fl s2 hzz=>hzz.el fun τ2 fl' st2 r1 r2 r3=>?_) fun _ _ e=>e.elim;have r3:fl'= .ret (.bool true):=r3;subst r3;obtain ⟨v,rfl,hv⟩:=r1;have hv:v= .bool true:=hv;subst hv;refine hQ s2 (fun a o e=>r2.keep a o (hkeep a o e) dv (fun hw=>?_) (fun hf=>?_)) r2.gens r2.os
 ·have:=hfr a (hpabove a (bZ hw));rw [e] at this;cases this
 ·have:=hfr a (dg ((hfs a).mp hf).symm);rw [e] at this;cases this
end
end
section
open PySem.StrLaws
variable {t:List Nat}
theorem Lq (h: ∀c∈t,c∈fI): ∀d∈eI aG t,fm d=true→d=10:=by
 intro d hd hb;obtain ⟨c,hc,hd⟩:=mr.mp hd;have f:=dJ c (h c hc);rw [f.2.1] at hd;split at hd
 ·simpa using hd
 ·rename_i hc10
  rw [(f.2.2.1 hc10 d hd).2.2] at hb;cases hb
theorem Lm: ∀{t:List Nat},(∀c∈t,c∈fI)→(eI aG t).length≤3*t.length:=by
 intro zi;induction zi with
 |nil=>intro _;exact cz _
 |cons c t ih=>
  intro h;obtain hf: ∀c∈fI,(aG c).cps.toList.length≤3:=by decide+kernel
  obtain h1:=hf c (h c (.head _));obtain h2:=ih fun d hd=>h d (.tail _ hd);show ((aG c).cps.toList++eI aG t).length≤_;rw [aj,cn];exact aW 0x487050503508321a0321c062 1057 [_,_,_] h1 h2
theorem Am (h: ∀c∈t,c∈fI):cR (tx (eI aG t))=dl ((fY t).map bY):=by
 rw [jW (Lq h)];have hS:=mA h;obtain e:eI aG t=aS ((fY t).map bY):=by
  conv=>lhs;rw [←jI t]
  exact nO hS
 rw [e,lF (by simpa using fN t)];intro p hp q;obtain ⟨p',hp',rfl⟩:=ap.mp hp;exact (jS (hS p' hp') 10 q).1 rfl
theorem uP (w:Nat) (t:List Nat):lY w t=fG w t:=by delta lY fG jK;rw [qM,List.flatMap_map];rfl
theorem Cl (t:List Nat):(fY t).flatten.length+(fY t).length=t.length+1:=by have:=jY (fN t);rw [jI] at this;exact Eq.symm (by assumption)
theorem Bc {w:Nat}: ∀Q:List (List Nat),(Q.flatMap (dB w)).length≤Q.flatten.length+2*Q.length∧((∀p∈Q,wF p)→(Q.flatMap (dB w)).flatten.length≤4*Q.flatten.length+3*Q.length):=by
 intro zi;induction zi with
 |nil=>exact ⟨ay _,fun _=>ay _⟩
 |cons p Q ih=>
  have ih:=ih;have h:=rB (w:=w) p.length (p.map aR);rw [cx,aj,br,aj,cn,ew,aj];refine ⟨by have h1:=h.1;have i1:=ih.1;delta dB at *; exact aW 0x4942828282a8835083250a0520a4a12061 1057 [_,_,_,_,_] ih.1 h.1,fun hS=>?_⟩;have h2:=h.2.1;obtain i2:=ih.2 fun q hq=>hS q (.tail _ hq);obtain hb:(p.map aR).flatten.length≤3*p.length:=by
   obtain this: ∀q:List Nat,wF q→(q.map aR).flatten.length≤3*q.length:=by
    intro q;induction q with
    |nil=>intro _;exact cz _
    |cons c q ihq=>intro hq;obtain h1:=(rM c).2;obtain h2:=ihq fun d hd=>hq d (.tail _ hd);rw [bg,br,aj,cn];exact aW 0x487050503508321a0321c062 1057 [_,_,_] h1 h2
   exact this p (hS p (.head _))
  delta dB at*;exact hW 0x24a1c141414905106a1064a1a1433064a1c0a4810521c066 33825 [_,_,_,_,_,_] h.2.1 i2 hb
theorem Hx {w:Nat} (hw:4≤w) {t:List Nat} (h: ∀c∈t,c∈fI) (hne:t≠[]) (hl:t.length≤12):fE w t:=by
 walk_at "T w, hw t, h hne hl";have hS:=mA h;have hz:=Cl t;have hL:=Am h;have htl:=Lm h;obtain hu:eI aG t=aS ((fY t).map bY):=by
  conv=>lhs;rw [←jI t]
  exact nO hS
 have hcl:=jY (ls:=(fY t).map bY) (by simpa using fN t);rw [←hu] at hcl;have hd:=zM ((fY t).map bY);have hfs:=Bc (w:=w) (fY t);have henc:iQ w t=aS (fG w t):=by unfold iQ;exact Bv hw h hne hL
 obtain hrl:=jY (pT w t);have hR:(fG w t).flatten.length+(fG w t).length≤200:=by have h1:=hfs.1;obtain h2:=hfs.2 hS;unfold fG;exact Cf 0x12000c84a84193103a28281a8a4928502905250e0524081 0xa028421 [_,_,_,_,_] hl hz hfs.1 h2
 obtain hbr: ∀c∈iQ w t,fm c=true→c=10:=by
  rw [henc];intro c hc hb;rcases jT hc with q|⟨p,hp,q⟩
  ·exact q
  ·rw [(mQ h p hp c q).2.2] at hb;cases hb
 have hL2:cR (tx (iQ w t))=dl (fG w t):=by rw [jW hbr,henc,lF (pT w t) fun p hp q=>(mQ h p hp 10 q).1 rfl]
 have hd2:=zM (fG w t);refine ⟨fun c hc=>(dJ c (h c hc)).1,hl,by rw [hL];exact Cf 0x4800e11219310290e021d145228281c881 0x6108021 [_,_,_,_,_] hl htl hcl hd.2,by rw [hL];exact Cf 0x4800e15219310290e021d145228281c8a1 0x6108021 [_,_,_,_,_] hl htl hcl hd.1,fun z hz'=>?_,by rw [uP];exact aq (by assumption) (ax _ _),by rw [uP];exact henc,by rw [henc];exact aW 0x9009c4243450c4a0a032000c84a862 1057 [_,_,_] hrl hR,by rw [hL2];exact aW 0x4804e2121900064254314841 1057 [_,_,_] hR hd2.2,by rw [hL2];exact aW 0x4804e2521900064254314861 1057 [_,_,_] hR hd2.1,by rw [hL2,henc];exact An hw h hne⟩;unfold jK at hz';rw [qM] at hz';obtain ⟨p,hp,rfl⟩:=ap.mp hz';rw [pX];refine ⟨?_,fun c hc=>(dJ c (hS p hp c hc).1).1⟩;have:=lD hp;exact hW 0x24007d090c98815141409441c861 0x100421 [_,_,_,_] hl hz this
end
section
theorem mU (x:Int) (k:Nat):cI x k∈pieces:=by delta cI;have h:=cX (d8 (d8 x 5) (8^k)) (m:=8) (by decide);have h:0≤cv (d8 (d8 x 5) (8^k)) 8∧cv (d8 (d8 x 5) (8^k)) 8<8:=h;generalize cv (d8 (d8 x 5) (8^k)) 8=d at*;have hl:pieces.length=8:=rfl;rw [ao,ae (by simp_all)];exact cg _
theorem oP: ∀z∈pieces,(z.cps.toList.all fun c=>decide (c∈fI))=true∧1≤z.cps.toList.length∧z.cps.toList.length≤2:=by decide+kernel
theorem zW (x:Int):(∀c∈(cD x).cps.toList,c∈fI)∧(cD x).cps.toList≠[]∧(cD x).cps.toList.length≤12:=by
 have hm:=cX x (m:=5) (by decide);have hm:0≤cv x 5∧cv x 5<5:=hm;delta cD;generalize hn:(2+cv x 5).toNat=n;obtain e:(am n).map (cI x)=((am n).map fun k=>(cI x k).cps.toList).map tx:=by rw [cw];exact gv fun k _=>(mC _).symm
 rw [e,Jv,pX];refine ⟨fun c hc=>?_,fun q=>?_,?_⟩
 ·refine aE (j4.mp hc) fun l hl hc=>?_
  refine aE (ap.mp hl) fun k _ qz2=>?_;subst qz2;exact of_decide_eq_true (f9.mp (oP _ (mU x k)).1 c hc)
 ·obtain h0:0<n:=by lia
  have:(cI x 0).cps.toList∈(am n).map fun k=>(cI x k).cps.toList:=du (f:=fun k=>(cI x k).cps.toList) (bj.mpr h0);have h1:=(oP _ (mU x 0)).2.1;have:=List.flatten_eq_nil_iff.mp q _ this;rw [this] at h1;simp at h1
 ·have: ∀ls:List (List Nat),(∀l∈ls,l.length≤2)→ls.flatten.length≤2*ls.length:=by
   intro ls;induction ls with
   |nil=>intro _;simp
   |cons a r ih=>intro h;obtain h1:=h a (.head _);obtain h2:=ih fun l hl=>h l (.tail _ hl);rw [br,aj,cn];exact aW 0x485050503508321203214062 1057 [_,_,_] h1 h2
  have:=this ((am n).map fun k=>(cI x k).cps.toList) (fun l hl=>by
   refine aE (ap.mp hl) fun k _ qz2=>?_;subst qz2;exact (oP _ (mU x k)).2.2)
  rw [bl,k9] at this;lia
end
section
variable {Y:List Str}{a b e:Str}
abbrev LE (a b:Str):Prop:=fV b a=false
theorem LE.lt (h:LE a b) (n:a≠b):fV a b=true:=(eY h).elim (fun e=>absurd e.symm n) id
theorem Ee (h:fV a b=true):a≠b:=fun e=>by rw [e,fO] at h;cases h
theorem On (h:fV a b=true):fV b a=false:=by
 cases e:fV b a with
 |false=>rfl
 |true=>have:=gT _ _ _ h e;rw [fO] at this;cases this
theorem Oq (h:(a==e)=true):(a::Y).dropWhile (· ==e)=Y.dropWhile (· ==e):=List.dropWhile_cons_of_pos (p:=fun x=>x==e) h
theorem Oe (h: ¬(a==e)=true):(a::Y).dropWhile (· ==e)=a::Y:=List.dropWhile_cons_of_neg (p:=fun x=>x==e) h
theorem Ri (h:(a==e)=true):(a::Y).takeWhile (· ==e)=a::Y.takeWhile (· ==e):=List.takeWhile_cons_of_pos (p:=fun x=>x==e) h
theorem Qg (h: ¬(a==e)=true):(a::Y).takeWhile (· ==e)=[]:=List.takeWhile_cons_of_neg (p:=fun x=>x==e) h
def Cd (q:Str→Bool):Nat→List Str→List Str
 |0,X=>X
 |f+1,X=>if X.filter q=[] then X else match X with
  |[]=>[]
  |e::Y=>if q e=true then Cd q f (Y.dropWhile (· ==e)) else e::Cd q f (Y.dropWhile (· ==e))
theorem zN (q f X):Cd q (f+1) X=(if X.filter q=[] then X else match X with
  |[]=>[]
  |e::Y=>if q e=true then Cd q f (Y.dropWhile (· ==e)) else e::Cd q f (Y.dropWhile (· ==e))):=rfl
theorem rO {l:List Str} {x:Str}: ∀(f i:Nat),l.length≤f+i→l.drop (bL l x f i)=(l.drop i).dropWhile (· ==x):=by
 intro zi;induction zi with
 |zero=>intro i h;show l.drop i=_;rw [dt (by simp_all)];rfl
 |succ f ih=>
  intro i h;rw [jM];split
  ·rename_i hx
   obtain ⟨hl,e⟩:=af.mp hx;rw [ih (i+1) (by exact aQ 0x9294140c419286a0a041 33 [_,_,_] h),ck hl,e,Oq (by simp)]
  ·rename_i hx
   by_cases hl:i<l.length
   ·rw [ck hl,Oe]
    intro q;exact hx (by rw [ae hl,eq_of_beq q])
   ·rw [dt (by exact fe.mp (by assumption))];rfl
theorem Jx: ∀{Y:List Str},(e::Y).Pairwise LE→ ∀y∈Y.dropWhile (· ==e),fV e y=true:=by
 intro zi;induction zi with
 |nil=>intro _ y hy;cases hy
 |cons a Y ih=>
  intro h y hy;have h1:=c5.mp h;by_cases ha:(a==e)=true
  ·rw [Oq ha] at hy
   obtain this:(e::Y).Pairwise LE:=c5.mpr ⟨fun z hz=>h1.1 z (.tail _ hz),(c5.mp h1.2).2⟩;exact ih this y hy
  ·rw [Oe ha] at hy
   have hea:fV e a=true:=LE.lt (h1.1 a (.head _)) fun q=>ha (by rw [q];simp);rcases ar.mp hy with rfl|hy
   ·exact hea
   ·obtain h2:=(c5.mp h1.2).1 y hy
    rcases eY h2 with q|q
    ·rw [q];exact hea
    ·exact gT _ _ _ hea q
theorem qT (q:Str→Bool): ∀Y:List Str,Y.filter q=(if q e=true then Y.takeWhile (· ==e) else [])++(Y.dropWhile (· ==e)).filter q:=by
 intro zi;induction zi with
 |nil=>simp
 |cons a Y ih=>
  by_cases ha:(a==e)=true
  ·have:=eq_of_beq ha
   subst this;rw [Ri ha,Oq ha,c9,ih];split<;>simp
  ·rw [Qg ha,Oe ha];simp
theorem Mp {Z:List Str} (h: ∀z∈Z,z≠e):((Y.takeWhile (· ==e))++Z).dropWhile (· ==e)=Z:=by
 induction Y with
 |nil=>
  cases Z with
  |nil=>rfl
  |cons z Z=>rw [List.takeWhile_nil,fp,Oe];intro q;exact h z (.head _) (eq_of_beq q)
 |cons a Y ih=>
  by_cases ha:(a==e)=true
  ·rw [Ri ha,cq,Oq ha];exact ih
  ·rw [Qg ha,fp]
   cases Z with
   |nil=>rfl
   |cons z Z=>rw [Oe];intro q;exact h z (.head _) (eq_of_beq q)
theorem Iz {A B:List Str} (q:Str→Bool): ∀(f i j:Nat) (m u:List Str),(A.drop i).Pairwise LE→B.drop j=(A.drop i).filter q→i≤A.length→j≤B.length→(A.drop i).length≤f→sld A B f i j m u=(m++Cd q f (A.drop i),u):=by
 walk_at "I zi,";induction zi with
 |zero=>intro i j m u hp hB hi hj hf;have:A.drop i=[]:=jm (by simp_all);show (m++A.drop i,u++B.drop j)=_;rw [hB,this];exact congrArg (Prod.mk (m++[])) (be u)
 |succ f ih=>
  intro i j m u hp hB hi hj hf;by_cases hn:(A.drop i).filter q=[]
  ·rw [hn] at hB
   have hjl:B.length≤j:=by have:=congrArg gt hB;rw [f8] at this;simp at this;simp_all
   rw [iI (.inr hjl),hB];rw [zN];rw [if_pos hn];simp
  ·have hil:i<A.length:=by
    rcases j9 i A.length with h|h
    ·exact h
    ·exact absurd (by rw [dt h];rfl) hn
   have hX:=ck hil;generalize he:A[i]=e at hX;generalize hY:A.drop (i+1)=Y at hX;rw [hX] at hp hB hn hf ⊢;obtain hbn:B.drop j≠[]:=by rw [hB];exact hn
   have hjl:j<B.length:=by
    rcases j9 j B.length with h|h
    ·exact h
    ·exact absurd (dt h) hbn
   have hBX:=ck hjl;obtain gA:A[i]? =some e:=by rw [ae hil,he]
   obtain gB:B[j]? =some B[j]:=ae hjl;obtain hZ:=Jx hp;have hdA:A.drop (bL A e A.length (i+1))=Y.dropWhile (· ==e):=by rw [rO _ _ (by exact dw _ _),hY]
   have hZp:(Y.dropWhile (· ==e)).Pairwise LE:=(c5.mp hp).2.sublist (jp _);have hZl:(Y.dropWhile (· ==e)).length≤f:=by have:=(jp (l:=Y) (· ==e)).length_le;simp only [cn] at hf;exact aW 0x484192828128281c861 1057 [_,_,_] hf this
   have hiA:=jV A e A.length (i+1) (by assumption);obtain hg:Cd q (f+1) (e::Y)=(if q e=true then Cd q f (Y.dropWhile (· ==e)) else e::Cd q f (Y.dropWhile (· ==e))):=by
    conv=>lhs;rw [zN]
    rw [if_neg hn]
   rw [uJ gA gB,hg];by_cases hq:q e=true
   ·rw [if_pos hq]
    rw [List.filter_cons_of_pos hq,hBX] at hB;obtain ⟨e1,e2⟩:=List.cons.inj hB;rw [e1,fO];simp only [bu,if_false];rw [←hdA];refine ih _ _ m u (by rw [hdA];exact hZp) ?_ hiA (jV B e B.length (j+1) (by assumption)) (by rw [hdA];exact hZl);rw [hdA,rO _ _ (by exact dw _ _),e2,qT (e:=e) q Y,if_pos hq];exact Mp fun z hz=>fun q'=>Ee (hZ z (bp.mp hz).1) q'.symm
   ·rw [if_neg hq]
    obtain hbe:fV e B[j]=true:=by
     obtain hm:B[j]∈(e::Y).filter q:=by rw [←hB,hBX];exact .head _
     obtain ⟨hm1,hm2⟩:=bp.mp hm;rcases ar.mp hm1 with q'|q'
     ·rw [q'] at hm2;exact absurd hm2 hq
     ·exact LE.lt ((c5.mp hp).1 _ q') fun q''=>hq (by rw [q''];exact hm2)
    rw [hbe,if_pos rfl];rw [←hdA];rw [ih _ j (m++[e]) u (by rw [hdA];exact hZp) ?_ hiA hj (by rw [hdA];exact hZl)] at ⊢
    ·simp
    ·rw [hdA,hB,List.filter_cons_of_neg hq,qT (e:=e) q Y,if_neg hq,fp]
end
section
variable {B:List Str}{z:Str}
def yT (B:List Str):List Str→List Str→List Str
 |_,[]=>[]
 |P,a::X=>if (!B.any (· ==a)&&(!P.any (· ==a)||B.all fun o=>fV o a))=true then a::yT B (P++[a]) X else yT B (P++[a]) X
theorem vO (B P a X):yT B P (a::X)=(if (!B.any (· ==a)&&(!P.any (· ==a)||B.all fun o=>fV o a))=true then a::yT B (P++[a]) X else yT B (P++[a]) X):=rfl
theorem Fo (B:List Str): ∀X P:List Str,((am X.length).filter fun k=>eQ (P++X) B (P.length+k)).map (fun k=>(P++X).getD (P.length+k) "")=yT B P X:=by
 intro zi;induction zi with
 |nil=>intro P;exact rfl
 |cons a X ih=>
  intro P;have ih:=ih (P++[a]);rw [aa,eh,aj,er] at ih;have e0:eQ (P++a::X) B (P.length+0)=(!B.any (· ==a)&&(!P.any (· ==a)||B.all fun o=>fV o a)):=by delta eQ;simp
  have g0:(P++a::X).getD (P.length+0) ""=a:=by simp
  have s1:(fun k=>eQ (P++a::X) B (P.length+(k+1)))=fun k=>eQ (P++a::X) B (P.length+1+k):=by funext k;congr 1;exact jP 0x14509414054a0a041 33 [_,_]
  have s2:(fun k=>(P++a::X).getD (P.length+(k+1)) "")=fun k=>(P++a::X).getD (P.length+1+k) "":=by funext k;congr 1;exact jP 0x14509414054a0a041 33 [_,_]
  rw [cn,List.range_succ_eq_map,c9,e0];rw [vO];have t:(((am X.length).map Nat.succ).filter fun k=>eQ (P++a::X) B (P.length+k)).map (fun k=>(P++a::X).getD (P.length+k) "")=yT B (P++[a]) X:=by rw [←ih, ←s1, ←s2,List.filter_map,cw];rfl
  split
  ·rw [bg,g0,t]
  ·exact t
theorem oH (A B:List Str):mL A B=yT B [] A:=by rw [←Fo B A []];delta mL;simp
theorem Ib (B:List Str): ∀X P:List Str,(yT B P X).Sublist X:=by
 intro zi;induction zi with
 |nil=>intro _;exact .slnil
 |cons a X ih=>
  intro P;rw [vO];split
  ·exact (ih _).cons_cons _
  ·exact (ih _).cons _
theorem Go: ∀{X P:List Str},(∀x∈X,B.any (· ==x)=false∧B.all (fun o=>fV o x)=true)→yT B P X=X:=by
 intro zi;induction zi with
 |nil=>intro _ _;exact rfl
 |cons a X ih=>intro P h;have h1:=h a (.head _);rw [vO];rw [h1.1,h1.2,Bool.or_true];exact congrArg (a:: ·) (ih fun x hx=>h x (.tail _ hx))
theorem wD {Z:List Str}: ∀{G P:List Str},(∀g∈G,B.any (· ==g)=true∨(P.any (· ==g)=true∧B.all (fun o=>fV o g)=false))→yT B P (G++Z)=yT B (P++G) Z:=by
 walk_at "I zi,";induction zi with
 |nil=>intro P _;rw [be];rfl
 |cons g G ih=>
  intro P h;obtain e:(!B.any (· ==g)&&(!P.any (· ==g)||B.all fun o=>fV o g))=false:=by
   rcases h g (.head _) with q|⟨q,q'⟩
   ·rw [q];rfl
   ·rw [q,q'];exact qh _
  have ih:=ih (P:=P++[g]) fun x hx=>by
   rcases h x (.tail _ hx) with q|⟨q,q'⟩
   ·exact .inl q
   ·exact .inr ⟨by rw [List.any_append,q];rfl,q'⟩
  rw [aa,eh] at ih;rw [cq]
  conv=>lhs;rw [vO]
  rw [e];exact ih
theorem tN:B.any (· ==z)=true↔z∈B:=by rw [j6];exact ⟨fun ⟨x,h,e⟩=>eq_of_beq e▸h,fun h=>⟨z,h,by simp⟩⟩
theorem pG (h:z∉B):B.any (· ==z)=false:=by
 cases e:B.any (· ==z) with
 |false=>rfl
 |true=>exact absurd (tN.mp e) h
theorem Ez {e:Str} {Y:List Str}: ∀g∈Y.takeWhile (· ==e),g=e:=fun g hg=>eq_of_beq (f9.mp (List.all_takeWhile (l:=Y)) g hg)
theorem Ia {q:Str→Bool}: ∀(f:Nat) (P X:List Str),X.length≤f→X.Pairwise LE→(∀p∈P, ∀x∈X,fV p x=true)→Cd q f X=yT ((P++X).filter q) P X:=by
 intro zi;induction zi with
 |zero=>intro P X hf _ _;have:X=[]:=jm (by simp_all);subst this;rfl
 |succ f ih=>
  intro P X hf hX hP;by_cases hn:X.filter q=[]
  ·rw [zN]
   rw [if_pos hn,Go fun x hx=>?_] at ⊢;rw [gz,hn,be];refine ⟨pG fun hm=>?_,f9.mpr fun o ho=>hP o (bp.mp ho).1 x hx⟩;exact Ee (hP x (bp.mp hm).1 x hx) rfl
  ·cases X with
   |nil=>exact absurd rfl hn
   |cons e Y=>
    have hZ:=Jx hX;have hZp:(Y.dropWhile (· ==e)).Pairwise LE:=(c5.mp hX).2.sublist (jp _);have hZl:(Y.dropWhile (· ==e)).length≤f:=by have:=(jp (l:=Y) (· ==e)).length_le;simp only [cn] at hf;exact aW 0x484192828128281c861 1057 [_,_,_] hf this
    have hY:Y.takeWhile (· ==e)++Y.dropWhile (· ==e)=Y:=o9;have hP2: ∀p∈P++e::Y.takeWhile (· ==e), ∀x∈Y.dropWhile (· ==e),fV p x=true:=fun p hp x hx=>by
     have hx':x∈e::Y:= .tail _ ((jp _).subset hx);rcases bq.mp hp with hp|hp
     ·exact hP p hp x hx'
     ·rcases ar.mp hp with rfl|hp
      ·exact hZ x hx
      ·rw [Ez p hp];exact hZ x hx
    have ih:=ih (P++e::Y.takeWhile (· ==e)) _ hZl hZp hP2;have eA:P++e::Y.takeWhile (· ==e)++Y.dropWhile (· ==e)=P++e::Y:=by rw [aa,cq,hY]
    rw [eA] at ih;rw [zN];rw [if_neg hn];show (if q e=true then Cd q f (Y.dropWhile (· ==e)) else e::Cd q f (Y.dropWhile (· ==e)))=_;rw [ih];have eX:e::Y=e::Y.takeWhile (· ==e)++Y.dropWhile (· ==e):=by rw [cq,hY]
    by_cases hq:q e=true
    ·rw [if_pos hq]
     have hin: ∀g∈e::Y.takeWhile (· ==e),g∈(P++e::Y).filter q:=by
      intro g hg;refine bp.mpr ?_;rcases ar.mp hg with rfl|hg
      ·exact ⟨by simp,hq⟩
      ·rw [Ez g hg];exact ⟨by simp,hq⟩
     generalize (P++e::Y).filter q=B at*
     conv=>rhs;rw [eX]
     rw [wD];intro g hg;exact .inl (tN.mpr (hin g hg))
    ·rw [if_neg hq]
     have hne:((P++e::Y).filter q).any (· ==e)=false:=pG fun hm=>hq (bp.mp hm).2;have hnP:P.any (· ==e)=false:=pG fun hm=>Ee (hP e hm e (.head _)) rfl;have hna:((P++e::Y).filter q).all (fun o=>fV o e)=false:=by
      obtain ⟨o,ho⟩:=qm _ hn;obtain ⟨ho1,ho2⟩:=bp.mp ho;rw [←Bool.not_eq_true,f9];intro hall;have h1:=hall o (bp.mpr ⟨bq.mpr (.inr ho1),ho2⟩);rcases ar.mp ho1 with h2|h2
      ·rw [h2,fO] at h1;cases h1
      ·have:=(c5.mp hX).1 o h2
       rw [this] at h1;cases h1
     generalize (P++e::Y).filter q=B at*
     conv=>rhs;rw [vO]
     rw [hne,hnP];show _=e::yT _ _ _
     congr 1
     conv=>rhs;rw [←hY]
     rw [wD,aa,eh];intro g hg;rw [Ez g hg];exact .inr ⟨tN.mpr (by simp),hna⟩
theorem rN: ∀(p:Str) (l:List Str),risingS p l=true→(p::l).Pairwise LE
 |p,[],_=>List.pairwise_singleton _ _
 |p,x::r,h=>by
  unfold risingS at h;rw [bt] at h;have h1:fV x p=false:=by have:=h.1;delta fV;rw [←ltCps_eq];simpa using this
  have ih:=rN x r h.2;refine c5.mpr ⟨fun y hy=>?_,ih⟩;rcases ar.mp hy with rfl|hy
  ·exact h1
  ·have h2:=(c5.mp ih).1 y hy
   show fV y p=false;rcases eY h1 with q|q
   ·rw [←q];exact h2
   ·rcases eY h2 with q'|q'
    ·rw [q'];exact h1
    ·exact On (gT _ _ _ q q')
theorem gW: ∀l:List Str,sortedS l=true→l.Pairwise LE
 |[],_=>l5
 |x::r,h=>rN x r h
theorem nW {a b:List Str} (h:a.Perm b) (ha:a.Pairwise LE) (hb:b.Pairwise LE):a=b:=
 h.eq_of_pairwise (fun x y _ _ h1 h2=>by
  rcases eY h1 with q|q
  ·exact q.symm
  ·rw [show fV x y=false from h2] at q;cases q) ha hb
theorem jU: ∀c∈fI,k6 (dO c)=true∧jL c=gQ c∧iB c=(jL c&&fF c)∧fF c=iB c∧(iB c= !(([" ","\t",".","a","b"]:List Str).contains (dO c))):=by decide+kernel
theorem Hk {t:List Nat} (h: ∀c∈t,c∈fI):kX t:=by
 refine ⟨fun c hc=>(jU c (h c hc)).1,fun A B A' B' M hA sA hB sB hA' sA' hB' sB' hM sM=>?_⟩;obtain e1:t.filter gQ=t.filter jL:=i9 fun c hc=>(jU c (h c hc)).2.1.symm;obtain e2:t.filter fF=t.filter iB:=i9 fun c hc=>(jU c (h c hc)).2.2.2.1;rw [e1] at hA';rw [e2] at hB';have pA:=gW A sA;have pB:=gW B sB;obtain hAA:A'=A:=nW (hA'.trans hA.symm) (gW _ sA') pA;obtain hBB:B'=B:=nW (hB'.trans hB.symm) (gW _ sB') pB;subst hAA hBB;let q:Str→Bool:=fun z=> !(([" ","\t",".","a","b"]:List Str).contains z);have hBq:B'=A'.filter q:=by
  refine nW (hB.trans ?_) pB (pA.sublist sy);refine (List.Perm.trans ?_ (hA.filter q).symm);obtain this:((t.filter jL).map dO).filter q=(t.filter iB).map dO:=by
   rw [List.filter_map,oy]
   congr 1
   refine i9 fun c hc=>?_;have f:=jU c (h c hc);obtain hq:(q∘dO) c=iB c:=f.2.2.2.2.symm;rw [hq];have f3:=f.2.2.1;rw [f.2.2.2.1] at f3;cases hb:iB c<;>rw [hb] at f3<;>simp at f3 ⊢;exact f3
  rw [this]
 obtain hM2:M=mL A' B':=nW hM (gW M sM) (by rw [oH];exact pA.sublist (Ib _ _ _));rw [hM2,Iz q _ 0 0 [] [] (by rw [g8];exact pA) (by rw [g8,g8];exact hBq) (cz _) (cz _) (by rw [g8];exact dw _ _)];rw [g8,fp,Ia (q:=q) _ [] A' (by exact dw _ _) pA (fun p hp=>by cases hp),oH,fp, ←hBq]
end
section
def Dn (P:Pn):Nat→Nat→Bool
 |0,_=>false
 |r+1,k=>P.all fun p=>p.1 != k||Dn P r p.2
section
variable {j k n r t:Nat}{l:List Nat}
variable {P:Pn}
theorem fH:Dn P (r+1) k=true↔ ∀j,(k,j)∈P→Dn P r j=true:=by
 show P.all (fun p=>p.1 != k||Dn P r p.2)=true↔_;rw [f9];refine ⟨fun h j hj=>?_,fun h p hp=>?_⟩
 ·have:=h _ hj
  simpa using this
 ·by_cases e:p.1=k
  ·rw [gj];right
   exact h p.2 (by rw [←e];exact hp)
  ·simp [e]
theorem lS: ∀{r k:Nat},Dn P r k=true→Dn P (r+1) k=true:=by
 intro zi;induction zi with
 |zero=>intro k h;cases h
 |succ r ih=>intro k h;exact fH.mpr fun j hj=>ih (fH.mp h j hj)
theorem Nh (h:Dn P r k=true) (e:r≤t):Dn P t k=true:=by
 induction e with
 |refl=>exact h
 |step _ ih=>exact lS ih
theorem sX: ∀{r k:Nat},Dn P r k=true→ ∃q,q<r∧Dn P (q+1) k=true∧Dn P q k=false:=by
 intro zi;induction zi with
 |zero=>intro k h;cases h
 |succ r ih=>
  intro k h;cases e:Dn P r k with
  |false=>exact ⟨r,by exact ch _,h,e⟩
  |true=>obtain ⟨q,h1,h2⟩:=ih e;exact ⟨q,by exact jy (by assumption),h2⟩
theorem jZ (h:Dn P (r+1) k=false): ∃j,(k,j)∈P∧Dn P r j=false:=by
 cases hx:P.any fun p=>p.1==k&& !Dn P r p.2 with
 |true=>obtain ⟨p,hp,e⟩:=j6.mp hx;rw [bt] at e;exact ⟨p.2,by rw [←eq_of_beq e.1];exact hp,by simpa using e.2⟩
 |false=>
  exfalso;have:Dn P (r+1) k=true:=fH.mpr fun j hj=>by have:=jc.mp hx _ hj;simpa using this
  rw [this] at h;cases h
theorem sV:qL (P.map dQ) k j=true↔(k,j)∈P:=by
 delta qL;rw [j6];constructor
 ·rintro ⟨q,hq,e⟩
  obtain ⟨p,hp,rfl⟩:=ap.mp hq;rw [bt] at e;obtain e1:=eq_of_beq e.1;obtain e2:=eq_of_beq e.2;obtain this:p=(k,j):=Prod.ext (tc e1) (tc e2);exact this▸hp
 ·intro h
  exact ⟨dQ (k,j),du h,by simp [dQ]⟩
theorem jN {α:Type} {f:Nat→α} {d:α} (h:k<n):((am n).map f).getD k d=f k:=by rw [ao,b8,ka h];rfl
theorem max_le: ∀{a r:Nat},a≤r→(∀x∈l,x≤r)→l.foldl max a≤r:=by
 induction l with
 |nil=>intro a r h _;exact h
 |cons b l ih=>intro a r h hl;exact ih (Nat.max_le.mpr ⟨h,hl b (.head _)⟩) fun x hx=>hl x (.tail _ hx)
theorem Mj: ∀{a r:Nat},(r≤a∨r∈l)→r≤l.foldl max a:=by
 induction l with
 |nil=>intro a r h;rcases h with h|h;exact h;cases h
 |cons b l ih=>
  intro a r h;refine ih ?_;rcases h with h|h
  ·exact .inl (aq h (Nat.le_max_left _ _))
  ·rcases ar.mp h with rfl|h
   ·exact .inl (Nat.le_max_right _ _)
   ·exact .inr h
variable (h4: ∀p∈P,p.1<4∧p.2<4)
include h4
theorem hgt: ∀(t r k:Nat),k<4→Dn P (r+1) k=true→Dn P r k=false→r≤t→(bC (P.map dQ) t).getD k 0=r:=by
 walk_at "I zi,";induction zi with
 |zero=>
  intro r k hk _ _ hr;obtain this:r=0:=by simp_all
  subst this;show (jh 4 0).getD k 0=0;rw [ao,List.getElem?_replicate,if_pos hk];rfl
 |succ t ih=>
  intro r k hk h1 h2 hr;show (pJ (P.map dQ) (bC (P.map dQ) t)).getD k 0=r;delta pJ;rw [jN hk];have hx: ∀j,(k,j)∈P→ ∀q,q<r→Dn P (q+1) j=true→Dn P q j=false→(bC (P.map dQ) t).getD j 0=q:=fun j hj q hq a b=>
   ih q j (h4 _ hj).2 a b (by exact aW 0x90832505021cc61 1057 [_,_,_] hr hq)
  apply ng
  ·refine max_le (cz _) fun x hx'=>?_
   obtain ⟨j,hj,rfl⟩:=ap.mp hx';have hj:=sV.mp (bp.mp hj).2;refine nn fun gg=>?_;obtain ⟨q,hq,a,b⟩:=sX (fH.mp h1 j hj);refine gg ?_;rw [hx j hj q hq a b];assumption
  ·refine Mj ?_
   cases r with
   |zero=>exact .inl (ay _)
   |succ r=>right;obtain ⟨j,hj,b⟩:=jZ h2;obtain a:=fH.mp h1 j hj;exact ap.mpr ⟨j,bp.mpr ⟨bj.mpr (h4 _ hj).2,sV.mpr hj⟩,by rw [hx j hj r (by exact ch _) a b]⟩
omit h4
def Rt (P:Pn) (t k j:Nat):Bool:=((bV (P.map dQ) t).getD k []).contains j
theorem nT (hk:k<4):Rt P 0 k j=true↔j<4∧(k,j)∈P:=by delta Rt;show (((am 4).map fun k=>(am 4).filter (qL (P.map dQ) k)).getD k []).contains j=true↔_;rw [jN hk,ei,bp,bj,sV]
theorem nV {t k j:Nat} (hk:k<4):Rt P (t+1) k j=true↔j<4∧(Rt P t k j=true∨ ∃o,Rt P t k o=true∧Rt P t o j=true):=by
 walk_at "T P,t,k,j hk";delta Rt;show ((lN (bV (P.map dQ) t)).getD k []).contains j=true↔_;obtain hl:=kR (P.map dQ) t;generalize bV (P.map dQ) t=r at hl;delta lN;obtain e:r.getD k []=r[k]'(by simp_all):=by rw [ao,ae (by simp_all)];rfl
 rw [ao,b8,ae (by simp_all),e];rw [Option.map_some,Option.getD_some,ei,bp,bj,gj,j6];refine and_congr_right fun _=>or_congr_right ⟨?_,?_⟩
 ·rintro ⟨o,h1,h2⟩;exact ⟨o,ei.mpr h1,h2⟩
 ·rintro ⟨o,h1,h2⟩;exact ⟨o,ei.mp h1,h2⟩
theorem Fs (hk:k<4) (h:Rt P t k j=true):j<4:=by
 cases t with
 |zero=>exact ((nT hk).mp h).1
 |succ t=>exact ((nV hk).mp h).1
theorem Cj: ∀{t k j:Nat},k<4→Rt P t k j=true→ ∀r,Dn P (r+1) k=true→Dn P r j=true:=by
 intro zi;induction zi with
 |zero=>intro k j hk h r hd;exact fH.mp hd j ((nT hk).mp h).2
 |succ t ih=>
  intro k j hk h r hd;rcases ((nV hk).mp h).2 with h|⟨o,h1,h2⟩
  ·exact ih hk h r hd
  ·exact ih (Fs hk h1) h2 r (lS (ih hk h1 r hd))
theorem zJ (hj:j<4) (h:Rt P t j j=true): ∀r,Dn P r j=false:=by
 intro zi;induction zi with
 |zero=>exact rfl
 |succ r ih=>
  cases e:Dn P (r+1) j with
  |false=>rfl
  |true=>have:=ih;rw [Cj hj h r e] at this;cases this
theorem yK {x:Nat→Nat} (hx: ∀i<n,(x i,x (i+1))∈P) (hl: ∀i≤n,x i<4): ∀(t a b:Nat),a<b→b≤n→b - a≤2^t→Rt P t (x a) (x b)=true:=by
 intro zi;induction zi with
 |zero=>
  intro a b h1 h2 h3;obtain this:b=a+1:=by have:(2:Nat)^0=1:=rfl;exact hW 0x28a0a041984521ac41a0503 0x4000042000001000200842000001 [_,_,_] h1 h3 this
  subst this;exact (nT (hl a (by exact de (by assumption)))).mpr ⟨hl _ h2,hx a (by assumption)⟩
 |succ t ih=>
  intro a b h1 h2 h3;obtain hp:2^(t+1)=2^t+2^t:=by rw [Nat.pow_succ];exact jP 0x514108a21 33 [_]
  have h0:0<2^t:=Nat.pow_pos (by decide);refine (nV (hl a (by exact aW 0x12106630c843 1057 [_,_,_] h1 h2))).mpr ⟨hl b h2,?_⟩;by_cases q:b - a≤2^t
  ·exact .inl (ih a b h1 h2 q)
  ·exact .inr ⟨x (a+2^t),ih a _ (by exact Nat.add_lt_add_left (by assumption) _) (by exact aW 0x243508321937212c24 0x2008021 [_,_,_,_] h2 q) (by simp),ih _ b (by exact aQ 0x4c6a1077212c23 0x100021 [_,_,_] q) h2 (by exact aW 0x121ad43106445883450c64 0x42000001000000040100401 [_,_,_,_] h3 hp)⟩
include h4
theorem tG {k:Nat} (hk:k<4) (h:Dn P 4 k=false): ∃c,c<4∧(c=k∨Rt P 4 k c=true)∧Rt P 4 c c=true:=by
 walk_at "T P, h4 k, hk h";obtain ⟨a,ha,h⟩:=jZ h;obtain ⟨b,hb,h⟩:=jZ h;obtain ⟨c,hc,h⟩:=jZ h;obtain ⟨d,hd,_⟩:=jZ h;let x (i:Nat):Nat:=[k,a,b,c,d].getD i 0;have hx: ∀i<4,(x i,x (i+1))∈P:=fun i hi=>by
  have:i=0∨i=1∨i=2∨i=3:=by exact aQ 0x6b5aa0d01a0901a0501a010199101 0x800008000084000042000420000200800008400004200840000400000200000100000080000040000020000010000008000 [_] hi
  rcases this with rfl|rfl|rfl|rfl
  ·exact ha
  ·exact hb
  ·exact hc
  ·exact hd
 have hl: ∀i≤4,x i<4:=fun i hi=>by
  by_cases e:i=0
  ·subst e;exact hk
  ·have:=(h4 _ (hx (i - 1) (by exact aQ 0x4c885850191101 33793 [_] hi))).2
   rw [show i - 1+1=i from by exact aQ 0x2815050b0a03ba0101 0x80200840008001080010000008001 [_] e] at this;exact this
 have hn: ¬[k,a,b,c,d].Nodup:=fun q=>by
  have:=fK (m:=4) q fun y hy=>by
   obtain ⟨i,hi,rfl⟩:=List.mem_iff_getElem.mp hy;have:=hl i (by have:i<5:=hi;exact ik (by assumption));show _<4;have e:x i=[k,a,b,c,d][i]:=by show [k,a,b,c,d].getD i 0=_;rw [ao,ae hi];rfl
   rw [←e];exact this
  simp at this
 have hp: ∃i j,i<j∧j≤4∧x i=x j:=by rw [List.nodup_iff_pairwise_ne,List.pairwise_iff_getElem] at hn;simp only [qp] at hn;refine nn fun gg=>?_;obtain ⟨i,j,hi,hj,hij,e⟩:=hn;refine gg ?_;have hj':j<5:=hj;refine ⟨i,j,hij,by exact ik (by assumption),?_⟩;have e:=oh.mp e;show [k,a,b,c,d].getD i 0=[k,a,b,c,d].getD j 0;rw [ao,ao,ae hi,ae hj,e]
 refine nn fun gg=>?_;obtain ⟨i,j,hij,hj,e⟩:=hp;refine gg ?_;have h1:=yK hx hl 4 i j hij hj (by have:(2:Nat)^4=16:=rfl;exact aW 0x121ac4191101a4103 0x2108001 [_,_,_] hj this);rw [←e] at h1;refine ⟨x i,hl i (by exact aW 0x48880cc4191102 1057 [_,_] hij hj),?_,h1⟩;by_cases q:i=0
 ·subst q;exact .inl rfl
 ·exact .inr (yK hx hl 4 0 i (by grind_order) (by exact aW 0x48880cc4191102 1057 [_,_] hij hj) (by have:(2:Nat)^4=16:=rfl;exact hW 0x1212c080cc6191103a4102 0x42108001 [_,_,_] hij hj this))
theorem yB (hk:k<4) (h:Dn P r k=true):Dn P 4 k=true:=by
 cases e:Dn P 4 k with
 |true=>rfl
 |false=>
  refine nn fun gg=>?_;obtain ⟨c,hc,h1,h2⟩:=tG h4 hk e;refine gg ?_;have:=zJ hc h2 r;rcases h1 with rfl|h1
  ·rw [h] at this;cases this
  ·cases r with
   |zero=>cases h
   |succ r=>rw [lS (Cj hk h1 r h)] at this;cases this
theorem yX:dK (bV (P.map dQ) 4)=(am 4).filter (Dn P 4):=by
 walk_at "T P, h4";delta dK;refine i9 fun k hk=>?_;have hk:=bj.mp hk;rw [fa,List.isEmpty_iff,mz];constructor
 ·intro h
  cases e:Dn P 4 k with
  |true=>rfl
  |false=>
   refine nn fun gg=>?_;obtain ⟨c,hc,h1,h2⟩:=tG h4 hk e;refine gg ?_;refine absurd h2 (h c ?_);rcases h1 with rfl|h1
   ·exact bq.mpr (.inr (.head _))
   ·exact bq.mpr (.inl (ei.mp h1))
 ·intro h j hj q
  have:Dn P 4 j=true∧j<4:=by
   rcases bq.mp hj with hj|hj
   ·have hj:Rt P 4 k j=true:=ei.mpr hj
    exact ⟨lS (Cj hk hj 3 h),Fs hk hj⟩
   ·rcases ar.mp hj with rfl|hj
    ·exact ⟨h,hk⟩
    ·cases hj
  have q':Rt P 4 j j=true:=q;have:=zJ this.2 q' 4;rw [‹Dn P 4 j=true∧j<4›.1] at this;cases this
omit h4
def tB (P:Pn) (r:Nat):List Nat:=(am 4).filter fun k=>Dn P (r+1) k&& !Dn P r k
theorem jR:k∈tB P r↔k<4∧Dn P (r+1) k=true∧Dn P r k=false:=by delta tB;rw [bp,bj,bt,la]
include h4
theorem As:bO (dK (bV (P.map dQ) 4)) (bC (P.map dQ) 4)=(am 4).map (tB P):=by
 delta bO;refine gv fun r hr=>?_;have hr:=bj.mp hr;rw [yX h4,oy];delta tB;refine i9 fun k hk=>?_;have hk:=bj.mp hk;rw [fa,bt,bt,la,beq_iff_eq];constructor
 ·rintro ⟨h1,h2⟩
  refine nn fun gg=>?_;obtain ⟨q,hq,a,b⟩:=sX h2;refine gg ?_;rw [hgt h4 4 q k hk a b (by exact de (by assumption))] at h1;subst h1;exact ⟨a,b⟩
 ·rintro ⟨a,b⟩
  exact ⟨hgt h4 4 r k hk a b (by exact de (by assumption)),yB h4 hk a⟩
end
end
section
theorem Az: ∀(l:List Nat) (c:Nat→Int) (rd:List Nat),(∀x∈l,(l.count x:Int)≤c x)→
  ∃L,kQ l (c,rd)=(fun x=>c x - l.count x,rd++L)∧L.Nodup∧ ∀x,x∈L↔x∈l∧c x=l.count x:=by
 intro l;induction l with
 |nil=>exact fun c rd h=>⟨[],by simp [kQ],me,by simp⟩
 |cons a l ih=>
  intro c rd h;have ha:=h a (.head _);rw [l0] at ha;have hu: ∀x,upd c a (c a - 1) x - (l.count x:Nat)=c x - ((a::l).count x:Nat):=by
   intro x;by_cases e:x=a
   ·subst e;rw [bW,l0];lia
   ·rw [bQ e,lp (fun q=>e q.symm)]
  obtain ⟨L,e,nd,hm⟩:=ih (upd c a (c a - 1)) (if c a - 1=0 then rd++[a] else rd) fun x hx=>by
   by_cases e:x=a
   ·subst e;rw [bW];lia
   ·rw [bQ e]
    have:=h x (.tail _ hx);rw [lp (fun q=>e q.symm)] at this;exact this
  have e':kQ (a::l) (c,rd)=(fun x=>c x - ((a::l).count x:Nat),(if c a - 1=0 then rd++[a] else rd)++L):=by show kQ l (upd c a (c a - 1),if c a - 1=0 then rd++[a] else rd)=_;rw [e];exact congrArg (·,(if c a - 1=0 then rd++[a] else rd)++L) (funext hu)
  by_cases h1:c a - 1=0
  ·rw [if_pos h1] at e'
   have h0:l.count a=0:=by lia
   have hna:a∉l:=ta.mp h0;refine ⟨a::L,by rw [e',aa];rfl,eg.mpr ⟨fun q=>hna ((hm a).mp q).1,nd⟩,fun x=>?_⟩;rw [ar,ar,hm x];by_cases e:x=a
   ·subst e
    rw [l0,h0];exact ⟨fun _=>⟨.inl rfl,by lia⟩,fun _=> .inl rfl⟩
   ·rw [bQ e,lp (fun q=>e q.symm)]
    exact ⟨fun q=>q.elim (fun q=>absurd q e) fun q=>⟨.inr q.1,q.2⟩,fun q=> .inr ⟨q.1.elim (fun q=>absurd q e) id,q.2⟩⟩
  ·rw [if_neg h1] at e'
   refine ⟨L,e',nd,fun x=>?_⟩;rw [ar,hm x];by_cases e:x=a
   ·subst e
    rw [bW,l0];refine ⟨fun q=>⟨.inl rfl,by lia⟩,fun q=>⟨?_,by simp_all⟩⟩;have:0<l.count x:=by lia
    exact s9.mp this
   ·rw [bQ e,lp (fun q=>e q.symm)]
    exact ⟨fun q=>⟨.inr q.1,q.2⟩,fun q=>⟨q.1.elim (fun q=>absurd q e) id,q.2⟩⟩
def cnt (P:Pn) (S:Nat→Bool) (k:Nat):Nat:=(P.filter fun p=>p.1==k&& !S p.2).length
section
variable {S:Nat→Bool}{k r x:Nat}
variable {P:Pn}
theorem pF:cnt P S k=0↔ ∀j,(k,j)∈P→S j=true:=by
 delta cnt;rw [ku,mz];constructor
 ·intro h j hj
  have:=h _ hj;simpa using this
 ·intro h p hp
  rw [bt,beq_iff_eq]
  rintro ⟨e,q⟩
  rw [h p.2 (by rw [←e];exact hp)] at q;cases q
theorem Dz:(sP P k).count x=(P.filter fun p=>p.1==x&&p.2==k).length:=by delta sP;rw [List.count_eq_countP,List.countP_map,List.countP_eq_length_filter,oy];rfl
theorem mT:x∈sP P k↔(x,k)∈P:=by
 delta sP;rw [ap];constructor
 ·rintro ⟨p,hp,rfl⟩
  obtain ⟨h1,h2⟩:=bp.mp hp;rw [←eq_of_beq h2];exact h1
 ·intro h;exact ⟨(x,k),bp.mpr ⟨h,by simp⟩,rfl⟩
theorem sK {α:Type} {p q r:α→Bool} (h: ∀x,p x=(q x||r x)) (hd: ∀x,(q x&&r x)=false): ∀l:List α,(l.filter p).length=(l.filter q).length+(l.filter r).length
:=by
 intro l;induction l with
 |nil=>rfl
 |cons a l ih=>obtain h1:=h a;have h2:=hd a;rw [c9,c9,c9,h1];cases hq:q a<;>cases hr:r a<;>rw [hq,hr] at h2<;>simp at h2 ⊢<;>lia
theorem kZ (hk:S k=false):cnt P S x=cnt P (fun j=>S j||j==k) x+(sP P k).count x:=by
 rw [Dz];refine sK (fun p=>?_) (fun p=>?_) P
 ·show (p.1==x&& !S p.2)=((p.1==x&& !(S p.2||p.2==k))||(p.1==x&&p.2==k))
  by_cases e:p.2=k
  ·rw [e,hk];simp
  ·obtain this:(p.2==k)=false:=by rw [beq_eq_false_iff_ne];exact e
   rw [this];cases (p.1==x)<;>cases (S p.2)<;>rfl
 ·show ((p.1==x&& !(S p.2||p.2==k))&&(p.1==x&&p.2==k))=false
  cases (p.1==x)<;>cases (p.2==k)<;>cases (S p.2)<;>rfl
structure Jj (P:Pn) (S:Nat→Bool) (todo:List Nat) (c:Nat→Int) (nr:List Nat):Prop where
 cl: ∀x,S x=true→ ∀j,(x,j)∈P→S j=true
 td:todo.Nodup
 ts: ∀k∈todo,k<4∧S k=false∧cnt P S k=0
 hc: ∀k<4,c k=if S k=true then -2 else if k∈todo then -1 else (cnt P S k:Int)
 nd:nr.Nodup
 hm: ∀k,k∈nr↔k<4∧S k=false∧k∉todo∧cnt P S k=0
variable (h4: ∀p∈P,p.1<4∧p.2<4)
include h4
theorem Jj.run: ∀{todo:List Nat} {S:Nat→Bool} {c:Nat→Int} {nr:List Nat},Jj P S todo c nr→ ∃c' nr',nI (sP P) todo (c,nr)=some (c',nr')∧Jj P (fun j=>S j||decide (j∈todo)) [] c' nr':=by
 walk_at "I zi,";induction zi with
 |nil=>
  intro S c nr K;refine ⟨c,nr,rfl,?_⟩;obtain this:(fun j=>S j||decide (j∈([]:List Nat)))=S:=by funext j;simp
  rw [this];exact K
 |cons k ks ih=>
  intro S c nr K;obtain ⟨k4,kS,k0⟩:=K.ts k (.head _);obtain kn:=pF.mp k0;have hkk:=eg.mp K.td;obtain hck:c k= -1:=by rw [K.hc k k4,kS,if_neg (by decide),if_pos (.head _)]
  have nin {x:Nat} (h:S x=true∨cnt P S x=0):(x,k)∉P:=fun q=>by have:S k=true:=h.elim (fun h=>K.cl x h k q) fun h=>pF.mp h k q;rw [kS] at this;cases this
  have c0 {x:Nat} (h:S x=true∨cnt P S x=0):(sP P k).count x=0:=ta.mpr fun q=>nin h (mT.mp q);have hcx {x:Nat} (hx:x∈sP P k):x<4∧x≠k∧S x=false∧x∉k::ks∧c x=cnt P S x:=by
   have hp:=mT.mp hx;have h1:S x=false:=by cases e:S x with|false=>rfl|true=>exact absurd hp (nin (.inl e))
   have h2:x∉k::ks:=fun q=>nin (.inr (K.ts x q).2.2) hp;have hx4:=(h4 _ hp).1;exact ⟨hx4,fun e=>h2 (e▸ .head _),h1,h2,by rw [K.hc x hx4,h1,if_neg (by decide),if_neg h2]⟩
  obtain ⟨L,e,ndL,hL⟩:=Az (sP P k) (upd c k (-2)) nr fun x hx=>by refine nn fun gg=>?_;obtain ⟨_,h1,_,_,h2⟩:=hcx hx;refine gg ?_;rw [bQ h1,h2,kZ kS (x:=x)];exact jP 0x55ca089c1 1 [_,_]
  obtain K':Jj P (fun j=>S j||j==k) ks (fun x=>upd c k (-2) x - (sP P k).count x) (nr++L):=by
   refine ⟨fun x hx j hj=>?_,hkk.2,fun x hx=>?_,fun x hx=>?_,?_,fun x=>?_⟩
   ·rw [gj] at hx ⊢
    rcases hx with hx|hx
    ·exact .inl (K.cl x hx j hj)
    ·rw [eq_of_beq hx] at hj;exact .inl (kn j hj)
   ·obtain ⟨a,b,d⟩:=K.ts x (.tail _ hx)
    have hxk:x≠k:=fun e=>hkk.1 (e▸hx);refine ⟨a,by rw [b];simpa using hxk,?_⟩;rw [kZ kS (x:=x)] at d;simp_all
   ·by_cases e:x=k
    ·subst e
     rw [bW,c0 (.inr k0)];simp
    ·rw [bQ e,K.hc x hx]
     obtain eb:(x==k)=false:=by rw [beq_eq_false_iff_ne];exact e
     show _=if (S x||x==k)=true then _ else _;rw [eb,Bool.or_false];cases hs:S x with
     |true=>rw [if_pos rfl,if_pos rfl,c0 (.inl hs)];rfl
     |false=>
      simp only [bu,if_false];by_cases hk:x∈ks
      ·rw [if_pos (.tail _ hk),if_pos hk,c0 (.inr (K.ts x (.tail _ hk)).2.2)];rfl
      ·rw [if_neg hk,if_neg (fun q=>(ar.mp q).elim e hk)]
       have:=kZ (P:=P) kS (x:=x)
       simp_all
   ·refine k8.mpr ⟨K.nd,ndL,fun a ha b hb q=>?_⟩
    subst q;refine nn fun gg=>?_;obtain ⟨_,_,_,d⟩:=(K.hm a).mp ha;refine gg ?_;obtain ⟨hb,_⟩:=(hL a).mp hb;exact nin (.inr d) (mT.mp hb)
   ·rw [bq,K.hm x,hL x]
    show _↔x<4∧(S x||x==k)=false∧x∉ks∧cnt P (fun j=>S j||j==k) x=0;have hcm:=kZ (P:=P) kS (x:=x);constructor
    ·rintro (⟨a,b,d,z⟩|⟨a,b⟩)
     ·have hxk:x≠k:=fun e=>d (e▸ .head _)
      exact ⟨a,by rw [b];simpa using hxk,fun q=>d (.tail _ q),by simp_all⟩
     ·refine nn fun gg=>?_
      obtain ⟨h1,h2,h3,h5,h6⟩:=hcx a;refine gg ?_;rw [bQ h2,h6] at b;exact ⟨h1,by rw [h3];simpa using h2,fun q=>h5 (.tail _ q),by exact aW 0x2804068a1845770dc2 0x200042000001 [_,_,_] hcm b⟩
    ·rintro ⟨a,b,d,z⟩
     rw [so] at b;have hxk:x≠k:=by simpa using b.2
     obtain hnt:x∉k::ks:=fun q=>(ar.mp q).elim hxk d;by_cases h0:cnt P S x=0
     ·exact .inl ⟨a,b.1,hnt,h0⟩
     ·right
      have hx:x∈sP P k:=s9.mp (by exact hW 0x2610228a08c540207ba0102 0x4010840000020 [_,_,_] hcm z h0);refine nn fun gg=>?_;obtain ⟨_,_,_,_,h6⟩:=hcx hx;refine gg ?_;exact ⟨hx,by rw [bQ hxk,h6];simp_all⟩
  refine nn fun gg=>?_;obtain ⟨c',nr',e2,K2⟩:=ih K';refine gg ?_;refine ⟨c',nr',?_,?_⟩
  ·rw [yH]
   rw [if_pos hck,e];exact e2
  ·obtain this:(fun j=>S j||decide (j∈k::ks))=fun j=>(S j||j==k)||decide (j∈ks):=by
    funext j
    rw [Bool.or_assoc]
    congr 1
    rw [fa];simp
   rw [this];exact K2
omit h4
def Ce (P:Pn) (r k:Nat):Bool:=decide (k<4)&&Dn P r k
include h4
theorem yG {c:Nat→Int} {rd:List Nat} (K:Jj P (Ce P r) [] c rd) (k:Nat):k∈rd↔k∈tB P r:=by
 rw [K.hm k,jR];delta Ce;refine and_congr_right fun hk=>?_;rw [pF];obtain e:(decide (k<4)&&Dn P r k)=Dn P r k:=by simp [hk]
 rw [e,fH];constructor
 ·rintro ⟨a,_,b⟩
  exact ⟨fun j hj=>((bt _ _).mp (b j hj)).2,a⟩
 ·rintro ⟨b,a⟩
  exact ⟨a,dv,fun j hj=>by rw [b j hj];simp [(h4 _ hj).2]⟩
theorem Iw (h:tB P r=[]): ∀t,r≤t→tB P t=[]:=by
 intro t ht;induction ht with
 |refl=>exact h
 |@step t ht ih=>
  cases e:tB P (t+1) with
  |nil=>rfl
  |cons k l=>exfalso;obtain ⟨hk,a,b⟩:=jR.mp (show k∈tB P (t+1) from e▸ .head _);obtain ⟨j,hj,q⟩:=jZ b;have:j∈tB P t:=jR.mpr ⟨(h4 _ hj).2,fH.mp a j hj,q⟩;rw [ih] at this;cases this
theorem vY (h:4≤r):tB P r=[]:=by
 cases e:tB P r with
 |nil=>rfl
 |cons k l=>exfalso;obtain ⟨hk,a,b⟩:=jR.mp (show k∈tB P r from e▸ .head _);rw [Nh (yB h4 hk a) h] at b;cases b
theorem Fc: ∀(f r:Nat) (c:Nat→Int) (rd:List Nat),r+f=6→Jj P (Ce P r) [] c rd→pQ (sP P) f (c,rd) (((sg r (4 - r)).map (tB P)).filter fun r=> !r.isEmpty):=by
 walk_at "I zi,";induction zi with
 |zero=>
  intro r c rd hf K;have h0:rd=[]:=lu.mpr fun k hk=>by have:=(yG h4 K k).mp hk;rw [vY h4 (by simp_all)] at this;cases this
  have:r=6:=by assumption
  subst this;exact ⟨h0,rfl⟩
 |succ f ih=>
  intro r c rd hf K;have hL:=yG h4 K;by_cases h0:rd=[]
  ·refine .inl ⟨h0,?_⟩
   obtain hl:tB P r=[]:=lu.mpr fun k hk=>by have:=(hL k).mpr hk;rw [h0] at this;cases this
   rw [mz];intro row hrow;obtain ⟨t,ht,rfl⟩:=ap.mp hrow;rw [Iw h4 hl t (List.mem_range'_1.mp ht).1];decide
  ·obtain hr:r<4:=by
    rcases j9 r 4 with h|h
    ·exact h
    ·exfalso
     refine h0 (lu.mpr fun k hk=>?_);have:=(hL k).mp hk;rw [vY h4 h] at this;cases this
   obtain hK0:Jj P (Ce P r) rd (nK c rd) []:=by
    refine ⟨K.cl,K.nd,fun k hk=>?_,fun k hk=>?_,me,fun k=>?_⟩
    ·refine nn fun gg=>?_
     obtain ⟨a,b,_,d⟩:=(K.hm k).mp hk;refine gg ?_;exact ⟨a,b,d⟩
    ·delta nK
     by_cases h:k∈rd
     ·rw [if_pos h,((K.hm k).mp h).2.1,if_neg (by decide),if_pos h]
     ·rw [if_neg h,K.hc k hk,if_neg h,if_neg (dv)]
    ·refine ⟨fun q=>absurd q dv,fun ⟨a,b,d,z⟩=>absurd ((K.hm k).mpr ⟨a,b,dv,z⟩) d⟩
   refine nn fun gg=>?_;obtain ⟨c',nr',e,K'⟩:=hK0.run h4 (S:=Ce P r);refine gg ?_;obtain eS:(fun j=>Ce P r j||decide (j∈rd))=Ce P (r+1):=by
    funext j
    rw [fa,gj,decide_eq_true_eq,hL j,jR];delta Ce;rw [bt,bt,decide_eq_true_eq];constructor
    ·rintro (⟨a,b⟩|⟨a,b,_⟩)
     ·exact ⟨a,lS b⟩
     ·exact ⟨a,b⟩
    ·rintro ⟨a,b⟩
     cases e:Dn P r j with
     |true=>exact .inl ⟨a,rfl⟩
     |false=>exact .inr ⟨a,b,rfl⟩
   rw [eS] at K';obtain ih:=ih (r+1) c' nr' (by exact aQ 0x2864284a0a0343214a0a041 0x108401 [_,_] hf) K';refine .inr ⟨h0,K.nd,fun k hk=>((K.hm k).mp hk).1,(c',nr'),_,e,?_,ih⟩;have es:tS rd=tB P r:=by delta tS tB;refine i9 fun k hk=>?_;rw [fa,ei,hL k,jR,bt,la];exact ⟨fun h=>h.2,fun h=>⟨bj.mp hk,h⟩⟩
   obtain hne:(!(tB P r).isEmpty)=true:=by
    rw [←es];cases e:tS rd with
    |cons a l=>rfl
    |nil=>
     obtain ⟨k,hk⟩:=qm _ h0;have:k∈tS rd:=by rw [es];exact (hL k).mp hk
     rw [e] at this;cases this
   rw [show 4 - r=(4 - (r+1))+1 from by (exact aQ 0x514142d41404885848899101 0x108020000210040100021080010000100001 [_] hr),List.range'_succ,bg,c9,if_pos hne,es]
theorem wI:pQ (sP P) 6 (cP P,dC 4 (cP P)) (((am 4).map (tB P)).filter fun r=> !r.isEmpty):=by
 walk_at "T P, h4";obtain K:Jj P (Ce P 0) [] (cP P) (dC 4 (cP P)):=by
  have hS: ∀k,Ce P 0 k=false:=fun k=>by delta Ce;exact qh _
  have hc: ∀k,cP P k=(cnt P (Ce P 0) k:Int):=fun k=>by
   delta cP cnt
   congr 2
   refine i9 fun p _=>?_;rw [hS];simp
  refine ⟨fun x hx=>?_,me,fun k hk=>absurd hk dv,fun k hk=>?_,?_,fun k=>?_⟩
  ·rw [hS] at hx;cases hx
  ·rw [hS,if_neg (by decide),if_neg dv,hc]
  ·exact ml _ List.nodup_range
  ·delta dC
   rw [bp,bj,beq_iff_eq,hc,hS];exact ⟨fun ⟨a,b⟩=>⟨a,rfl,dv,by simp_all⟩,fun ⟨a,_,_,b⟩=>⟨a,by simp_all⟩⟩
 have:=Fc h4 6 0 (cP P) _ rfl K;rw [List.range_eq_range'];exact this
end
end
section
section
variable {rk:Nat→Nat}
variable {s:Nat→List Nat}
theorem oZ: ∀{rs:List (Nat×Nat)} {v:Nat} {rs':List (Nat×Nat)},dN s rs=some (v,rs')→ ∃u k r,rs'=(u,k+1)::r∧(s u)[k]? =some v∧(u,k)::r <:+ rs:=by
 intro zi;induction zi with
 |nil=>intros;contradiction
 |cons ze r ih=>
  obtain ⟨u,k⟩:=ze;intro v rs' h;rw [lP] at h;split at h
  ·rename_i w hw
   cases h;exact ⟨u,k,r,rfl,hw,List.suffix_refl _⟩
  ·refine nn fun gg=>?_
   obtain ⟨u',k',r',a,b,c⟩:=ih h;refine gg ?_;exact ⟨u',k',r',a,b,c.trans (List.suffix_cons _ _)⟩
structure Oy (rk:Nat→Nat) (rs:List (Nat×Nat)):Prop where
 pw:rs.Pairwise fun a b=>rk b.1<rk a.1
 lt: ∀e∈rs,e.1<4
theorem Oo (hs: ∀u<4, ∀v∈s u,v<4∧rk u<rk v) {rs rs':List (Nat×Nat)} {v:Nat} (h:dN s rs=some (v,rs')) (A:Oy rk rs):v<4∧Oy rk rs'∧ ∀e∈rs',rk e.1<rk v:=by
 refine nn fun gg=>?_;obtain ⟨u,k,r,rfl,hv,hx⟩:=oZ h;refine gg ?_;have hsub:=hx.sublist;obtain hp:=A.pw.sublist hsub;have hu:u<4:=A.lt _ (hsub.subset (.head _));have h1:=hs u hu v (fh hv);have hpc:=c5.mp hp;refine ⟨h1.1,⟨c5.mpr ⟨fun e he=>hpc.1 e he,hpc.2⟩,fun e he=>?_⟩,fun e he=>?_⟩
 ·rcases ar.mp he with rfl|he
  ·exact hu
  ·exact A.lt e (hsub.subset (.tail _ he))
 ·rcases ar.mp he with rfl|he
  ·exact h1.2
  ·exact lb (hpc.1 e he) h1.2
theorem Kb (hs: ∀u<4, ∀v∈s u,v<4∧rk u<rk v): ∀(f v:Nat) (seen:Nat→Bool) (rs:List (Nat×Nat)),v<4→Oy rk rs→(∀e∈rs,rk e.1<rk v)→gI s f v seen rs≠none:=by
 intro zi;induction zi with
 |zero=>intro v seen rs _ _ _;exact fun e=>nomatch e
 |succ f ih=>
  intro v seen rs hv A hr;rw [sL];split
  ·have:rs.any (fun e=>e.1==v)=false:=by
    rw [jc];intro e he q;have:=hr e he;rw [eq_of_beq q] at this;exact absurd (by assumption) (ci _)
   rw [this,if_neg (by decide)];split
   ·simp
   ·rename_i v' rs' hp
    obtain ⟨h1,h2,h3⟩:=Oo hs hp A;exact ih v' seen rs' h1 h2 h3
  ·split
   ·simp
   ·rename_i v' rs' hp
    obtain A':Oy rk ((v,0)::rs):=⟨c5.mpr ⟨hr,A.pw⟩,fun e he=>by
     rcases ar.mp he with rfl|he
     ·exact hv
     ·exact A.lt e he⟩
    obtain ⟨h1,h2,h3⟩:=Oo hs hp A';exact ih v' _ rs' h1 h2 h3
theorem Nq (hs: ∀u<4, ∀v∈s u,v<4∧rk u<rk v) (F:Nat): ∀(l:List Nat) (seen:Nat→Bool),(∀v∈l,v<4)→cV s F l seen=false:=by
 intro zi;induction zi with
 |nil=>intro _ _;exact rfl
 |cons v l ih=>
  intro seen h;rw [nR];split
  ·exact ih seen fun x hx=>h x (.tail _ hx)
  ·split
   ·rename_i e
    exact absurd e (Kb hs F v seen [] (h v (.head _)) ⟨l5,fun e he=>by cases he⟩ fun e he=>by cases he)
   ·exact ih _ fun x hx=>h x (.tail _ hx)
def uG (s:Nat→List Nat):List Nat→Prop
 |[]=>True
 |u::F=>(∀x∈s u,x∈F)∧uG s F
def mF (s:Nat→List Nat) (F:List Nat):Nat→List (Nat×Nat)→Prop
 |_,[]=>True
 |v,(u,k)::r=>(∃pre,(s u).take k=pre++[v]∧ ∀x∈pre,x∈F)∧mF s F u r
theorem mF.mono {F F':List Nat} (h: ∀x∈F,x∈F'): ∀{v:Nat} {rs:List (Nat×Nat)},mF s F v rs→mF s F' v rs
 |_,[],_=>trivial
 |v,(u,k)::r,⟨⟨pre,e,q⟩,b⟩=>⟨⟨pre,e,fun x hx=>h x (q x hx)⟩,b.mono h⟩
def Mr (s:Nat→List Nat) (F:List Nat):List (Nat×Nat)→Prop
 |[]=>True
 |(u,k)::r=>(∀x∈(s u).take k,x∈F)∧mF s F u r
theorem mF.grow {F:List Nat} {v:Nat} (hv:v∈F): ∀{rs:List (Nat×Nat)},mF s F v rs→Mr s F rs
 |[],_=>trivial
 |(u,k)::r,⟨⟨pre,e,q⟩,b⟩=>⟨fun x hx=>(bq.mp (e▸hx)).elim (q x) fun hx=>(bk.mp hx)▸hv,b⟩
theorem Nl: ∀(rs:List (Nat×Nat)) (F:List Nat),Mr s F rs→uG s F→ ∃F',uG s F'∧(∀x∈F,x∈F')∧
  match dN s rs with
  |none=> ∀x,x∈F'↔(x∈F∨x∈rs.map (·.1))
  |some (v,rs')=>mF s F' v rs'∧ ∀x,(x∈F'∨x∈rs'.map (·.1))↔(x∈F∨x∈rs.map (·.1)):=by
 intro zi;induction zi with
 |nil=>intro F _ T;exact ⟨F,T,fun _ h=>h,fun x=>by simp⟩
 |cons ze r ih=>
  obtain ⟨u,k⟩:=ze
  rintro F ⟨hu,hb⟩ T
  rw [lP];cases e:(s u)[k]? with
  |some v=>refine ⟨F,T,fun _ h=>h,⟨⟨⟨(s u).take k,?_,hu⟩,hb⟩,fun x=>Iff.rfl⟩⟩;rw [d7,e];rfl
  |none=>
   obtain hk:(s u).take k=s u:=cf (bz.mp e);rw [hk] at hu;have hF: ∀x∈F,x∈u::F:=fun x hx=> .tail _ hx;refine nn fun gg=>?_;obtain ⟨F',T',hs,hm⟩:=ih (u::F) ((hb.mono hF).grow (.head _)) ⟨hu,T⟩;refine gg ?_;refine ⟨F',T',fun x hx=>hs x (hF x hx),?_⟩;have hx: ∀x,(x∈u::F∨x∈r.map (·.1))↔(x∈F∨x∈((u,k)::r).map (·.1)):=fun x=>by rw [bg,ar,ar];exact ⟨fun h=>h.elim (fun h=>h.elim (fun h=> .inr (.inl h)) .inl) fun h=> .inr (.inr h),fun h=>h.elim (fun h=> .inl (.inr h)) fun h=>h.elim (fun h=> .inl (.inl h)) .inr⟩
   show (match dN s r with|none=>_|some (v,rs')=>_);cases ep:dN s r with
   |none=>rw [ep] at hm;exact fun x=>(hm x).trans (hx x)
   |some q=>rw [ep] at hm;exact ⟨hm.1,fun x=>(hm.2 x).trans (hx x)⟩
theorem Ma: ∀(f v:Nat) (seen:Nat→Bool) (rs:List (Nat×Nat)) (F:List Nat) (seen':Nat→Bool),(∀u<4, ∀v∈s u,v<4)→v<4→(∀e∈rs,e.1<4)→gI s f v seen rs=some seen'→kH s 4 seen+fX s rs<f→mF s F v rs→uG s F→(∀u,seen u=true↔(u∈F∨u∈rs.map (·.1)))→
  ∃F',uG s F'∧(∀u,seen u=true→u∈F')∧(∀u,seen' u=true↔u∈F')∧v∈F':=by
 walk_at "I zi,";induction zi with
 |zero=>intro v seen rs F seen' _ _ _ _ hm _ _ _;exact absurd (by assumption) (ko _)
 |succ f ih=>
  intro v seen rs F seen' hs hv hr h hm B T hx;have lt' {rs0 rs':List (Nat×Nat)} {v':Nat} (h0: ∀e∈rs0,e.1<4) (hp:dN s rs0=some (v',rs')):v'<4∧ ∀e∈rs',e.1<4:=by
   refine nn fun gg=>?_;obtain ⟨u,k,r,rfl,hv,hx⟩:=oZ hp;refine gg ?_;have hu:u<4:=h0 _ (hx.sublist.subset (.head _));refine ⟨hs u hu v' (fh hv),fun e he=>?_⟩;rcases ar.mp he with rfl|he
   ·exact hu
   ·exact h0 e (hx.sublist.subset (.tail _ he))
  rw [sL] at h;split at h
  ·rename_i hsv
   split at h
   ·cases h
   ·rename_i hna
    have hvF:v∈F:=by
     rcases (hx v).mp hsv with q|q
     ·exact q
     ·obtain ⟨e,he,q⟩:=ap.mp q
      exact absurd (j6.mpr ⟨e,he,by rw [q];simp⟩) hna
    refine nn fun gg=>?_;obtain ⟨F',T',hsub,hp⟩:=Nl rs F (B.grow hvF) T;refine gg ?_;cases ep:dN s rs with
    |none=>rw [ep] at h hp;cases h;exact ⟨F',T',fun u hu=>(hp u).mpr ((hx u).mp hu),fun u=>(hx u).trans (hp u).symm,hsub v hvF⟩
    |some q=>obtain ⟨v',rs'⟩:=q;rw [ep] at h hp;have hl:=kJ ep;obtain ⟨a,b⟩:=lt' hr ep;refine nn fun gg=>?_;obtain ⟨F2,T2,hs2,hx2,_⟩:=ih v' seen rs' F' seen' hs a b h (by exact aW 0x98d420cd4140d440cc82 1057 [_,_,_,_] hm hl) hp.1 T' fun u=>(hx u).trans (hp.2 u).symm;refine gg ?_;exact ⟨F2,T2,hs2,hx2,hs2 v hsv⟩
  ·rename_i hsv
   obtain hsv:seen v=false:=by simpa using hsv
   obtain hmk:=pR (s:=s) hv hsv;obtain hr0: ∀e∈(v,0)::rs,e.1<4:=fun e he=>by
    rcases ar.mp he with rfl|he
    ·exact hv
    ·exact hr e he
   have hx0: ∀u,upd seen v true u=true↔(u∈F∨u∈((v,0)::rs).map (·.1)):=fun u=>by
    rw [bg,ar];by_cases e:u=v
    ·subst e;rw [bW];exact ⟨fun _=> .inr (.inl rfl),fun _=>rfl⟩
    ·rw [bQ e,hx u]
     exact ⟨fun h=>h.elim .inl fun h=> .inr (.inr h),fun h=>h.elim .inl fun h=>h.elim (fun h=>absurd h e) .inr⟩
   have up: ∀u,seen u=true→upd seen v true u=true:=fun u hu=>by
    by_cases e:u=v
    ·subst e;exact bW
    ·rw [bQ e];exact hu
   refine nn fun gg=>?_;obtain ⟨F',T',hsub,hp⟩:=Nl ((v,0)::rs) F ⟨fun x hx=>by simp at hx,B⟩ T;refine gg ?_;obtain h0:fX s ((v,0)::rs)=(s v).length+1+fX s rs:=by delta fX;rfl
   cases ep:dN s ((v,0)::rs) with
   |none=>rw [ep] at h hp;cases h;exact ⟨F',T',fun u hu=>(hp u).mpr ((hx0 u).mp (up u hu)),fun u=>(hx0 u).trans (hp u).symm,(hp v).mpr (.inr (by simp))⟩
   |some q=>obtain ⟨v',rs'⟩:=q;rw [ep] at h hp;obtain hl:=kJ ep;obtain ⟨a,b⟩:=lt' hr0 ep;refine nn fun gg=>?_;obtain ⟨F2,T2,hs2,hx2,_⟩:=ih v' _ rs' F' seen' hs a b h (by exact Cf 0x98d420cd4140d452508a509060d145505063cce2 0x40100421 [_,_,_,_,_,_,_] hm hmk h0 hl) hp.1 T' fun u=>(hx0 u).trans (hp.2 u).symm;refine gg ?_;exact ⟨F2,T2,fun u hu=>hs2 u (up u hu),hx2,hs2 v bW⟩
theorem Ni (hs: ∀u<4, ∀v∈s u,v<4) (hl: ∀k<4,(s k).length≤100): ∀(l:List Nat) (seen:Nat→Bool) (F:List Nat),(∀v∈l,v<4)→cV s 1000 l seen=false→uG s F→(∀u,seen u=true↔u∈F)→ ∃F',uG s F'∧(∀x∈F,x∈F')∧ ∀x∈l,x∈F':=by
 intro zi;induction zi with
 |nil=>intro seen F _ _ T _;exact ⟨F,T,fun _ h=>h,fun x hx=>absurd hx dv⟩
 |cons v l ih=>
  intro seen F h4 h T hx;have h4': ∀x∈l,x<4:=fun x hx=>h4 x (.tail _ hx);rw [nR] at h;split at h
  ·rename_i hv
   refine nn fun gg=>?_;obtain ⟨F',T',a,b⟩:=ih seen F h4' h T hx;refine gg ?_;exact ⟨F',T',a,fun x hx'=>(ar.mp hx').elim (fun e=>e▸a v ((hx v).mp hv)) (b x)⟩
  ·split at h
   ·cases h
   ·rename_i seen' e
    have hm:=tV (s:=s) (m:=4) (seen:=seen) hl;have h0:fX s []=0:=rfl;obtain ⟨F1,T1,a1,b1,c1⟩:=Ma 1000 v seen [] F seen' hs (h4 v (.head _)) (fun e he=>absurd he dv) e (by exact co (by assumption) (by decide)) trivial T fun u=>by rw [hx u];simp
    refine nn fun gg=>?_;obtain ⟨F',T',a,b⟩:=ih seen' F1 h4' h T1 b1;refine gg ?_;exact ⟨F',T',fun x hx'=>a x (a1 x ((hx x).mpr hx')),fun x hx'=>(ar.mp hx').elim (fun e=>e▸a v c1) (b x)⟩
def Kk:List Nat→Nat→Nat
 |[],_=>0
 |u::F,w=>if w∈F then Kk F w else F.length+1
theorem uN (u F w):Kk (u::F) w=(if w∈F then Kk F w else F.length+1):=rfl
theorem Kg: ∀(F:List Nat) (w:Nat),Kk F w≤F.length:=by
 intro zi;induction zi with
 |nil=>intro _;exact ay _
 |cons u F ih=>
  intro w;rw [uN];split
  ·exact Nat.le_succ_of_le (ih w)
  ·exact ay _
theorem Hq: ∀{F:List Nat},uG s F→ ∀u∈F, ∀v∈s u,v∈F∧Kk F v<Kk F u:=by
 intro zi;induction zi with
 |nil=>intros;contradiction
 |cons a F ih=>
  rintro ⟨ha,T⟩ u hu v hv
  by_cases h:u∈F
  ·obtain ⟨h1,h2⟩:=ih T u h v hv
   refine ⟨.tail _ h1,?_⟩;rw [uN,uN,if_pos h1,if_pos h];exact h2
  ·rcases ar.mp hu with rfl|hu
   ·have h1:=ha v hv
    refine ⟨.tail _ h1,?_⟩;rw [uN,uN,if_pos h1,if_neg h];exact o8 (Kg F v)
   ·exact absurd hu h
end
section
variable {P:Pn}
theorem Nc {rk:Nat→Nat} (h: ∀k<4, ∀j,(k,j)∈P→rk k<rk j): ∀{t k j:Nat},k<4→Rt P t k j=true→rk k<rk j:=by
 intro zi;induction zi with
 |zero=>intro k j hk hr;exact h k hk j ((nT hk).mp hr).2
 |succ t ih=>
  intro k j hk hr;rcases ((nV hk).mp hr).2 with q|⟨o,q1,q2⟩
  ·exact ih hk q
  ·exact lb (ih hk q1) (ih (Fs hk q1) q2)
variable (h4: ∀p∈P,p.1<4∧p.2<4)
include h4
theorem wM (hz:P.length≤100):cV (sP P) 1000 (am 4) (fun _=>false)=decide ((dK (bV (P.map dQ) 4)).length<4):=by
 walk_at "T P, h4 hz";obtain hs: ∀u<4, ∀v∈sP P u,v<4:=fun u _ v hv=>(h4 _ (mT.mp hv)).1;obtain hl: ∀k<4,(sP P k).length≤100:=fun k _=>by delta sP;rw [bl];exact aq (bw _ _) hz
 have hr: ∀v∈am 4,v<4:=fun v hv=>bj.mp hv;rw [yX h4];by_cases hall: ∀k∈am 4,Dn P 4 k=true
 ·have e:(am 4).filter (Dn P 4)=am 4:=oj.mpr hall
  rw [e];refine (Nq (s:=sP P) (rk:=fun k=>(bC (P.map dQ) 4).getD k 0) (fun u hu v hv=>?_) 1000 _ _ hr).trans (by rfl);have hp:=mT.mp hv;have hv4:=(h4 _ hp).1;refine ⟨hv4,?_⟩;refine nn fun gg=>?_;obtain ⟨q,hq,a,b⟩:=sX (hall v (bj.mpr hv4));refine gg ?_;refine nn fun gg=>?_;obtain ⟨q',hq',a',b'⟩:=sX (fH.mp a u hp);refine gg ?_;show (bC (P.map dQ) 4).getD u 0<(bC (P.map dQ) 4).getD v 0;rw [hgt h4 4 q v hv4 a b (by exact de (by assumption)),hgt h4 4 q' u hu a' b' (by exact aW 0x48880cc8814c41 1057 [_,_] hq hq')];exact hq'
 ·obtain e:((am 4).filter (Dn P 4)).length<4:=by
   obtain h1:((am 4).filter (Dn P 4)).length≤4:=bw _ _;rcases j9 ((am 4).filter (Dn P 4)).length 4 with h|h
   ·exact h
   ·exact absurd (List.length_filter_eq_length_iff.mp (ng h1 h)) hall
  rw [decide_eq_true e];cases hf:cV (sP P) 1000 (am 4) fun _=>false with
  |true=>rfl
  |false=>
   exfalso;refine nn fun gg=>?_;obtain ⟨F,T,_,hF⟩:=Ni hs hl (am 4) (fun _=>false) [] hr hf trivial fun u=>by simp
   refine gg ?_;simp only [qp] at hall;obtain ⟨k,hk,hd⟩:=hall;refine nn fun gg=>?_;obtain ⟨c,hc,_,hcc⟩:=tG h4 (hr k hk) (by simpa using hd);refine gg ?_;have:=Nc (P:=P) (rk:=Kk F) (fun k hk j hj=>(Hq T j (hF j (bj.mpr (h4 _ hj).2)) k (mT.mpr hj)).2) hc hcc;exact absurd (by assumption) (ci _)
end
theorem Cn (xs:List Int): ∃R,pQ (sP (dL xs)) 6 (cP (dL xs),dC 4 (cP (dL xs))) R∧
  cV (sP (dL xs)) 1000 (am 4) (fun _=>false)=decide ((dK (bV (bU xs) 4)).length<4)∧
  R=(bO (dK (bV (bU xs) 4)) (bC (bU xs) 4)).filter fun r=> !r.isEmpty:=by
 have h4:=uU xs;have h1:=wM h4 (aq (rC xs) (by decide));have h2:=As h4;rw [kL] at h1 h2;exact ⟨_,wI h4,h1,by rw [h2]⟩
theorem Fn (x:Int) (w:Nat) (hw:4≤w):fE w (cD x).cps.toList∧kX (cD x).cps.toList:=by obtain ⟨h1,h2,h3⟩:=zW x;exact ⟨Hx hw h1 h2 h3,Hk h1⟩
end
end Internal
open _root_.PySem renaming Params→ah,Value→ak,OsState→au,World→aw,Shared→az,wpAny→bx,mainGlobals→ca,Expr→dh,Stmt→iy,DictEntry→i6,Program→n0
open _root_.List renaming range→am,mem_cons→ar,append_nil→be,mem_range→bj,length_map→bl,lookup_cons→c7,not_mem_nil→dv,all_eq_true→f9,nodup_nil→me,lookup_append→ou
open _root_.Option.some renaming inj→ba
open _root_.Bool renaming and_eq_true→bt
open _root_.PySem.Heap renaming lt_size→dc
open _root_.PySem.Value renaming ref→fv
open _root_.PySem.W renaming keepIn→fy,SharedT→f7
open _root_.Option renaming map_eq_some_iff→f4
open _root_.PySem.Challenge renaming rw_oy0429_01→f5
open _root_.PySem.W.SharedT renaming abs→i4
open _root_.PySem.PyData renaming keyHash→m9
open _root_.Nat renaming le_of_ble_eq_true→sf
section
variable {α:Type}
namespace H
open PySem.W.Fast
def sN (l:List Nat):Str:=⟨l.toArray⟩
def sQ (n c:Nat):Str:=⟨(R.mapR (fun k=>c/ 256^k%256) (am n)).toArray⟩
def en (P:ah) (x:Str) (t:Nat) (v:ak):i6:=⟨m9 P x, .str x t,v⟩
def z0:Pos:=⟨0,0,0,0⟩
def z1:Pos:=⟨5,0,5,2⟩
def z2:Pos:=⟨6,0,6,11⟩
def z3:Pos:=⟨14,0,14,8⟩
def z4:Pos:=⟨15,9,15,74⟩
def z5:Pos:=⟨17,0,17,28⟩
def z6:Pos:=⟨18,9,18,110⟩
def z7:Pos:=⟨28,0,28,23⟩
def z8:Pos:=⟨29,9,29,16⟩
def z9:Pos:=⟨102,0,102,10⟩
def z10:Pos:=⟨110,0,111,8⟩
def z11:Pos:=⟨112,0,217,16⟩
def z12:Pos:=⟨309,0,334,15⟩
def oT (t:String) (d:Data):Obj:=⟨.type t,none,d,#[]⟩
def oN (d:Data):Obj:=⟨.none,none,d,#[]⟩
def iZ (k:Int):ak:=.int k 0
def Ta (d:Data):Obj:=oT SL.s2766695959194262286x5 d
def Tb (d:Data):Obj:=oT SL.s5856160107412720595x4 d
def Tc (d:Data):Obj:=oT SL.s7174869446012820540x8 d
def Td (d:Data):Obj:=oT SL.s14018661285674007319x4 d
def Te (d:Data):Obj:=oT SL.s9222952809800978799x4 d
def Tf (d:Data):Obj:=oT SL.s1378417608194177226x14 d
def Tg (d:Data):Obj:=oT SL.s11030030927630378310x26 d
def Th (d:Data):Obj:=oT SL.s658472552662922059x5 d
def Ti (d:Data):Obj:=oT SL.s5991306692159431302x13 d
def Tj (d:Data):Obj:=oT SL.s15992201931430999065x14 d
def Tk (d:Data):Obj:=oT SL.s4674234679698826739x5 d
def Tl (d:Data):Obj:=oT SL.s17162191345867700912x4 d
def Tm (d:Data):Obj:=oT SL.s5699418376593618685x17 d
def Tn (d:Data):Obj:=oT SL.s4290257624100764138x5 d
def To (d:Data):Obj:=oT SL.s14755015743595814543x17 d
def qaa:Str:=sQ 13 0x79702e7475632f6d69616c632f
def qab:Str:=sQ 15 0x62696c68706172672e333133797063
def qac:Str:=sQ 4 0x65646f6e
def qad:Str:=sQ 5 0x6c6c61775f
def qae:Str:=sQ 8 0x5f5f74696e695f5f
def qaf:Str:=sQ 4 0x666c6573
def qag:Str:=sQ 13 0x31305f39323430796f5f77616c
def qah:Str:=sQ 7 0x5f5f636f645f5f
def qai:Str:=sQ 23 0x656d696d6972706f75712e6c69616d652e333133797063
def qaj:Str:=sQ 12 0x6b636568635f726564616568
def qak:Str:=sQ 10 0x6b636568635f79646f62
def qal:Str:=sQ 7 0x65746f75716e75
def qam:Str:=sQ 5 0x65746f7571
def qan:Str:=sQ 9 0x6f666e4965646f4e5f
def qao:Str:=sQ 10 0x726f727245656c637943
def qap:Str:=sQ 17 0x726574726f536c616369676f6c6f706f54
def qaq:Str:=sQ 1 0xa
def qar:Str:=sQ 1 0x63
def qas:Str:=sQ 11 0x65646f636e655f79646f62
def qat:Str:=sQ 6 0x65646f636564
def qau:Str:=sQ 22 0x65636e657265666669645f7473696c5f646574726f73
def qav:Str:=sQ 10 0x73747865745f77616c5f
def qaw:Str:=sQ 10 0x736465656e5f77616c5f
def qax:Str:=sQ 8 0x6e75725f77616c5f
def qay:Str:=sQ 9 0x646c6f745f77616c5f
def qaz:Str:=sQ 10 0x6465646f635f77616c5f
def qba:Str:=sQ 9 0x73776f725f77616c5f
def qbb:Str:=sQ 12 0x676e696b63616c5f77616c5f
def qbc:Str:=sQ 3 0x77616c
def qbd:Str:=sQ 8 0x5f5f656d616e5f5f
def qbe:Str:=sQ 10 0x5f5f656c75646f6d5f5f
def qbf:Str:=sQ 15 0x5f5f6f6e656e696c74737269665f5f
def qbg:Str:=sQ 21 0x5f5f736574756269727474615f6369746174735f5f
def qbh:Str:=sQ 13 0x73726f7373656365646572706e
def qbi:Str:=sQ 10 0x73726f73736563637573
def qbj:Str:=sQ 11 0x5f5f6567616b6361705f5f
def qbk:Str:=sQ 10 0x5f5f726564616f6c5f5f
def qbl:Str:=sQ 8 0x5f5f636570735f5f
def qbm:Str:=sQ 15 0x5f5f736e6f697461746f6e6e615f5f
def qbn:Str:=sQ 12 0x5f5f736e69746c6975625f5f
def qbo:Str:=sQ 8 0x5f5f656c69665f5f
def qbp:Str:=sQ 10 0x5f5f6465686361635f5f
def qbq:Str:=sQ 4 0x464c5243
def qbr:Str:=sQ 2 0xa0d
def qbs:Str:=sQ 2 0x4c4e
def qbt:Str:=sQ 13 0x6f666e6965646f6e5f7465675f
def qbu:Str:=sQ 3 0x646461
def qbv:Str:=sQ 7 0x65726170657270
def qbw:Str:=sQ 9 0x79646165725f746567
def qbx:Str:=sQ 9 0x6576697463615f7369
def qby:Str:=sQ 8 0x5f5f6c6f6f625f5f
def qbz:Str:=sQ 4 0x656e6f64
def qca:Str:=sQ 11 0x656c6379635f646e69665f
def qcb:Str:=sQ 12 0x726564726f5f636974617473
def qcc:Str:=sQ 8 0x5f5f6e69616d5f5f
def qcd:Str:=sQ 11 0x50414d5f4952504f55515f
def qce:Str:=sQ 11 0x5f5f6665726b6165775f5f
def qcf:Str:=sQ 18 0x50414d5f5245444145485f4952504f55515f
def qcg:Str:=sQ 16 0x50414d5f59444f425f4952504f55515f
def qch:Str:=sQ 15 0x657361637265776f6c5f6969637361
def qci:Str:=sQ 26 0x7a797877767574737271706f6e6d6c6b6a696867666564636261
def qcj:Str:=sQ 15 0x6573616372657070755f6969637361
def qck:Str:=sQ 26 0x5a595857565554535251504f4e4d4c4b4a494847464544434241
def qcl:Str:=sQ 13 0x7372657474656c5f6969637361
def qcm:Str:=sQ 52 0x5a595857565554535251504f4e4d4c4b4a4948474645444342417a797877767574737271706f6e6d6c6b6a696867666564636261
def qcn:Str:=sQ 6 0x737469676964
def qco:Str:=sQ 10 0x39383736353433323130
def qcp:Str:=sQ 9 0x737469676964786568
def qcq:Str:=sQ 22 0x46454443424166656463626139383736353433323130
def qcr:Str:=sQ 5 0x746574636f
def qcs:Str:=sQ 12 0x5f5f656d616e6c6175715f5f
def qct:Str:=sQ 18 0x5f5f74696e695f5f2e6f666e4965646f4e5f
def qcu:Str:=sQ 26 0x5f5f74696e695f5f2e726574726f536c616369676f6c6f706f54
def qcv:Str:=sQ 31 0x6f666e6965646f6e5f7465675f2e726574726f536c616369676f6c6f706f54
def qcw:Str:=sQ 21 0x6464612e726574726f536c616369676f6c6f706f54
def qcx:Str:=sQ 25 0x657261706572702e726574726f536c616369676f6c6f706f54
def qcy:Str:=sQ 27 0x79646165725f7465672e726574726f536c616369676f6c6f706f54
def qcz:Str:=sQ 27 0x6576697463615f73692e726574726f536c616369676f6c6f706f54
def qda:Str:=sQ 26 0x5f5f6c6f6f625f5f2e726574726f536c616369676f6c6f706f54
def qdb:Str:=sQ 22 0x656e6f642e726574726f536c616369676f6c6f706f54
def qdc:Str:=sQ 29 0x656c6379635f646e69665f2e726574726f536c616369676f6c6f706f54
def qdd:Str:=sQ 30 0x726564726f5f6369746174732e726574726f536c616369676f6c6f706f54
def qde:Str:=sQ 23 0x50414d5f45444f434e455f59444f425f4952504f55515f
def qdf:Str:=sQ 12 0x73726f737365636564657270
def cO (x y:Str) (t:Nat) (l n f:Int) (r:Addr) (b:Bool) (u v z:ak) (e:Nat) (g:Int):Obj:=oT SL.s5856160107412720595x4 (.fields #[.str x t,.str y (t+1),.str qaa (t+2),iZ l,iZ n,iZ 0,iZ 0,iZ f,.ref r,.bool b,iZ 181,.ref (r+1), .none,u,v,z,iZ g,iZ l,.str qaa (e+1)])
def cA (x y:Str) (t:Nat) (l n f:Int) (r:Addr) (e:Nat):Obj:=cO x y t l n f r false .none .none .none e e
def cB (x y:Str) (t:Nat) (l n f:Int) (r:Addr) (e:Nat):Obj:=cO x y t l n f r true (.ref (r+2)) (.ref (r+3)) (.ref (r+4)) e e
def cC (x y:Str) (t:Nat) (l n f:Int) (r:Addr) (e:Nat):Obj:=cO x y t l n f r true .none .none (.ref (r+2)) e e
def fdAt (X:iy) (name qual:Str) (g:Addr) (cl:List (Str×Addr)) (dV kV doc pm:ak) (an:Option Addr) (cdv ct:ak) (b:Addr):FuncData:=
 {name:=name,qualname:=qual,params:=aP X,body:= .stmts (aX X),scope:=aU X,globals:=g,closure:=cl,defaults:=dV,kwdefaults:=kV,doc:=doc,pyModule:=pm,annotations:=an,code:=cdv,closureTuple:=ct,builtins:=b}
def hexl (t n:Nat):List ak:=R.mapR (fun k=> .str (tH k) (t+4*k)) (am n)
def putl (l:List ak) (ps:List (Nat×Nat×Nat)):List ak:=R.foldlR (fun l p=>l.set p.1 (.str ⟨#[p.2.1]⟩ p.2.2)) l ps
def annV:Option ak:=some (.ref 6)
def env0:Env:={scope:=pw.main.scope,locals:=mainNs,globals:=mainNs,cells:=[],code:= .ref 13,frame:=some 14}
def bd:List iy:=behindTheImports pw
def cE:Code:= .body bd env0
def B0:List Frame:=[topFrame z0]
def sts (i n:Nat):List iy:=(bd.drop i).take n
def psT (i n:Nat) (q:Pos):Thread:=piecesOf (sts i n) env0 cE q B0
def run_ (n:Nat) (w:aw) (s:f7) (t:Thread):Option (Flow×f7×Code×Pos):=segRunT treeTable pw w 11 annV 1 n s t
def go_ (n:Nat) (w:aw) (s:f7) (t:Thread):Option (f7×Thread):=segGoT treeTable pw w 11 annV 1 n s t
def seenB {α:Type} (_:α):Bool:=true
def w1:aw:=aWorld 1
def lf:Life:=⟨[],[],[],0,[],[],false,#[],[],0,false,false,false,0,[2000,10,10],false,0,true,[],[],0,false⟩
def mkS (t:BT) (n toks:Nat) (os:au):f7:=⟨t,n,lf,#[],boot_drawn,toks,os⟩
def insL (t:BT) (n:Nat):List Obj→BT|[]=>t|o::l=>insL (t.ins n o) (n+1) l
def frL (n:Nat):List Obj→Frag|[]=>[]|o::l=>(n,o)::frL (n+1) l
def nx (s:f7) (q:Pos):Option (Flow×f7×Code×Pos):=some (.next,s,cE,q)
def vf (w:aw):aw:=w.withFollow "special-get-raises" false
def vt (w:aw):aw:=w.withFollow "special-get-raises" true
def vff (w:aw):aw:=vf (w.withFollow "comprehension-iter-twice" false)
def vft (w:aw):aw:=vt (w.withFollow "comprehension-iter-twice" false)
def vtf (w:aw):aw:=vf (w.withFollow "comprehension-iter-twice" true)
def vtt (w:aw):aw:=vt (w.withFollow "comprehension-iter-twice" true)
def PP (w:aw) (n:Nat) (s:aw→au→f7) (t:Thread) (s':aw→au→f7) (q:Pos):Prop:= ∀os:au,segRun treeTable pw w 11 annV 1 n (i4 (s w os)) t=some (.next,i4 (s' w os),cE,q)
theorem eqT {L R u v:aw→au→α} (a:L=u) (b:R=v) (h: ∀w os,u w os=v w os) (w:aw) (os:au):L w os=R w os:=by rw [a,b,h]
theorem eqU {L R u:aw→au→α} (a:L=u) (h: ∀w os,u w os=R w os) (w:aw) (os:au):L w os=R w os:=by rw [a,h]
theorem run_more {w:aw} {n N:Nat} {s:az} {t:Thread} {r:Flow×az×Code×Pos} (h:segRun treeTable pw w 11 annV 1 n s t=some r) (e:n≤N):segRun treeTable pw w 11 annV 1 N s t=some r:=by
 induction n generalizing N s t with
 |zero=>simp [segRun] at h
 |succ n ih=>
 cases N with
 |zero=>omega
 |succ N=>
  unfold segRun at h ⊢;cases he:endAt 1 t with
  |some f=>rw [he] at h;exact h
  |none=>
  rw [he] at h;cases hk:stepOk 11 annV t with
  |false=>rw [hk] at h;cases h
  |true=>
   rw [hk] at h;cases hs:step (denote treeTable) pw w s t with
   |halt o s'=>rw [hs] at h;cases h
   |go s' t'=>rw [hs] at h;exact ih h (by omega)
def getT (o:Option (f7×Thread)) (d:Thread):Thread:=match o with|some x=>x.2|none=>d
def o11_0 (P:ah):Obj:=Ta (.seq #[] 0)
def o12_1 (P:ah):Obj:=oN (.fields #[])
def o13_2 (P:ah):Obj:=cA (sQ 8 0x3e656c75646f6d3c) (sQ 8 0x3e656c75646f6d3c) 182 1 0 0 11 185
def o14_3 (P:ah):Obj:=⟨(.type SL.s658472552662922059x5),none, .plain,#[some (.ref 13),some (.ref 3),some (.ref 3),none,some (.str qcc 164),none,some (.ref 0)]⟩
def heapA (P:ah):Heap:=⟨⟨[boot_o_0 P,boot_o_1 P,boot_o_2 P,boot_o_3 P,boot_o_4 P,boot_o_5 P,boot_o_6 P,boot_o_7 P,boot_o_8 P,boot_o_9 P,boot_o_10 P,o11_0 P,o12_1 P,o13_2 P,o14_3 P]⟩,lf⟩
def SA (w:aw) (os:au):az:=⟨heapA w.params,#[],boot_drawn,187,os⟩
def Lpre (w:aw) (os:au):Option (az×Thread):=topGo treeTable pw w 11 annV 12 ⟨boot_heap w.params,#[],boot_drawn,boot_toks,os⟩ (topStub pw)
def Rpre (w:aw) (os:au):Option (az×Thread):=some (SA w os,⟨denote treeTable cE,cE,z0,B0⟩)
theorem Wpre:seenB (Lpre,Rpre)=true:=by k_qdec
theorem Epre: ∀w os,Lpre w os=Rpre w os:=eqT te15645626137463421381 te4028220768085130123 fun w os=>by kernel_rfl
def t0 (P:ah):BT:=(.node (boot_o_0 P) (.node (boot_o_1 P) (.node (boot_o_3 P) (.node (boot_o_7 P) .nil .nil) (.node (o11_0 P) .nil .nil)) (.node (boot_o_5 P) (.node (boot_o_9 P) .nil .nil) (.node (o13_2 P) .nil .nil))) (.node (boot_o_2 P) (.node (boot_o_4 P) (.node (boot_o_8 P) .nil .nil) (.node (o12_1 P) .nil .nil)) (.node (boot_o_6 P) (.node (boot_o_10 P) .nil .nil) (.node (o14_3 P) .nil .nil))))
def S0 (w:aw) (os:au):f7:=mkS (t0 w.params) 15 187 os
def Lblk (w:aw) (os:au):Option (Flow×az×Code×Pos):=segRun treeTable pw w 11 annV 1 1 (SA w os) (blockOf bd env0 cE z0 B0)
def Rblk (w:aw) (os:au):Option (Flow×az×Code×Pos):=some (.next,i4 (S0 w os),cE,z0)
theorem Wblk:seenB (Lblk,Rblk)=true:=by k_qdec
theorem Eblk: ∀w os,Lblk w os=Rblk w os:=eqU te9322514042965218309 fun w os=>by kernel_rfl
def o3_4 (P:ah):Obj:=Td (.dict #[en P qbd 165 (.str qcc 164),en P qah 166 .none,en P qbj 167 .none,en P qbk 168 (.builtin SL.s7097527257260152453x26),en P qbl 169 .none,en P qbm 170 (.ref 6),en P qbn 171 (.ref 4),en P qbo 173 (.str qaa 172),en P qbp 174 .none,en P qad 193 (.ref 21),en P qbq 195 (.str qbr 194),en P qbs 197 (.str qaq 196)] 12)
def o12_5 (P:ah):Obj:=oN (.fields #[(iZ 1),(iZ 0),(.ref 20)])
def o15_6 (P:ah):Obj:=Ta (.seq #[] 0)
def o16_7 (P:ah):Obj:=oN (.fields #[])
def o17_8 (P:ah):Obj:=Ta (.seq #[(.str (sQ 1 0x6b) 190)] 0)
def o18_9 (P:ah):Obj:=Ta (.seq #[] 0)
def o19_10 (P:ah):Obj:=oN (.func (fdAt (aD 0) qad qad 0 [] .none .none .none .none none .none .none 0))
def o20_11 (P:ah):Obj:=cB qad qad 187 1 1 3 15 191
def o21_12 (P:ah):Obj:=Tc (.func (fdAt (aD 0) qad qad 3 [] .none .none .none (.str qcc 164) none (.ref 20) .none 0))
def t1 (P:ah):BT:=insL (((t0 P).set 3 fun _=>o3_4 P).set 12 fun _=>o12_5 P) 15 [o15_6 P,o16_7 P,o17_8 P,o18_9 P,o19_10 P,o20_11 P,o21_12 P]
def S1 (w:aw) (os:au):f7:=mkS (t1 w.params) 22 198 os
def L1 (w:aw) (os:au):=run_ 48 w (S0 w os) (psT 0 3 z0)
def R1 (w:aw) (os:au):=nx (S1 w os) z1
theorem W1:seenB (L1,R1)=true:=by k_qdec
theorem E1: ∀w os,L1 w os=R1 w os:=eqU te7933809194919962143 fun w os=>by kernel_rfl
def P1 (w:aw):Prop:=PP w 48 S0 (psT 0 3 z0) S1 z1
theorem F1 (w:aw):P1 w:=fun os=>segRun_of (E1 w os)
def o22_13 (P:ah):Obj:=oT SL.s1438033511350832697x5 (.fields #[(.int (0) 199),(.int (256) 198),(.int (1) 200)])
def o23_14 (P:ah):Obj:=Tj (.fields #[(iZ 0),(iZ 256),(iZ 1)])
def o24_15 (P:ah):Obj:=Te (.seq #[] 0)
def o25_16 (P:ah):Obj:=Td (.dict #[] 0)
def t2a (P:ah):BT:=insL (t1 P) 22 [o22_13 P,o23_14 P,o24_15 P,o25_16 P]
def S2a (w:aw) (os:au):f7:=mkS (t2a w.params) 26 201 os
def thr2:Thread:=getT (go_ 43 w1 (S1 w1 default) (psT 3 1 z1)) (psT 3 1 z1)
def L2aff (w:aw) (os:au):=go_ 53 (vff w) (S1 (vff w) os) (psT 3 1 z1)
def R2aff (w:aw) (os:au):=some ((S2a (vff w) os),thr2)
theorem W2aff:seenB (L2aff,R2aff)=true:=by k_qdec
theorem E2aff: ∀w os,L2aff w os=R2aff w os:=eqT te15997866803433245135 te13143965079513606193 fun w os=>by kernel_rfl
def L2aft (w:aw) (os:au):=go_ 53 (vft w) (S1 (vft w) os) (psT 3 1 z1)
def R2aft (w:aw) (os:au):=some ((S2a (vft w) os),thr2)
theorem W2aft:seenB (L2aft,R2aft)=true:=by k_qdec
theorem E2aft: ∀w os,L2aft w os=R2aft w os:=eqT te5872095729695768624 te2197814944352998108 fun w os=>by kernel_rfl
def L2atf (w:aw) (os:au):=go_ 43 (vtf w) (S1 (vtf w) os) (psT 3 1 z1)
def R2atf (w:aw) (os:au):=some ((S2a (vtf w) os),thr2)
theorem W2atf:seenB (L2atf,R2atf)=true:=by k_qdec
theorem E2atf: ∀w os,L2atf w os=R2atf w os:=eqT te546760017175721471 te9127415618141995019 fun w os=>by kernel_rfl
def L2att (w:aw) (os:au):=go_ 43 (vtt w) (S1 (vtt w) os) (psT 3 1 z1)
def R2att (w:aw) (os:au):=some ((S2a (vtt w) os),thr2)
theorem W2att:seenB (L2att,R2att)=true:=by k_qdec
theorem E2att: ∀w os,L2att w os=R2att w os:=eqT te30855108842415104 te9753617127124215121 fun w os=>by kernel_rfl
def o23_17 (P:ah):Obj:=Tj (.fields #[(iZ 128),(iZ 128),(iZ 1)])
def lo24_18:List ak:=hexl 204 128
def o24_18 (P:ah):Obj:=Te (.seq (lo24_18).toArray 128)
def o25_19 (P:ah):Obj:=Td (.dict #[en P qar 202 (.int (127) 709)] 1)
def t2b1 (P:ah):BT:=((((t2a P).set 23 fun _=>o23_17 P).set 24 fun _=>o24_18 P).set 25 fun _=>o25_19 P)
def S2b1 (w:aw) (os:au):f7:=mkS (t2b1 w.params) 26 713 os
def L2b1 (w:aw) (os:au):=go_ 4736 w (S2a w os) thr2
def R2b1 (w:aw) (os:au):=some ((S2b1 w os),thr2)
theorem W2b1:seenB (L2b1,R2b1)=true:=by k_qdec
theorem E2b1: ∀w os,L2b1 w os=R2b1 w os:=eqT te17827719610622988714 te12327508275171843822 fun w os=>by kernel_rfl
def o23_20 (P:ah):Obj:=Tj (.fields #[(iZ 256),(iZ 0),(iZ 1)])
def lo24_21:List ak:=hexl 204 256
def o24_21 (P:ah):Obj:=Te (.seq (lo24_21).toArray 256)
def o25_22 (P:ah):Obj:=Td (.dict #[en P qar 202 (.int (255) 1221)] 1)
def t2b2 (P:ah):BT:=((((t2b1 P).set 23 fun _=>o23_20 P).set 24 fun _=>o24_21 P).set 25 fun _=>o25_22 P)
def S2b2 (w:aw) (os:au):f7:=mkS (t2b2 w.params) 26 1225 os
def L2b2 (w:aw) (os:au):=go_ 4736 w (S2b1 w os) thr2
def R2b2 (w:aw) (os:au):=some ((S2b2 w os),thr2)
theorem W2b2:seenB (L2b2,R2b2)=true:=by k_qdec
theorem E2b2: ∀w os,L2b2 w os=R2b2 w os:=eqT te1408361203554223293 te1700625453059154182 fun w os=>by kernel_rfl
def o3_23 (P:ah):Obj:=Td (.dict #[en P qbd 165 (.str qcc 164),en P qah 166 .none,en P qbj 167 .none,en P qbk 168 (.builtin SL.s7097527257260152453x26),en P qbl 169 .none,en P qbm 170 (.ref 6),en P qbn 171 (.ref 4),en P qbo 173 (.str qaa 172),en P qbp 174 .none,en P qad 193 (.ref 21),en P qbq 195 (.str qbr 194),en P qbs 197 (.str qaq 196),en P qcd 1225 (.ref 24)] 13)
def o25_24 (P:ah):Obj:=Td (.dict #[] 2)
def o26_25 (P:ah):Obj:=Ta (.seq #[] 0)
def o27_26 (P:ah):Obj:=Ti (.fields #[(.ref 26), .none, .none, .none,(.bool false), .none])
def t2 (P:ah):BT:=insL (((t2b2 P).set 3 fun _=>o3_23 P).set 25 fun _=>o25_24 P) 26 [o26_25 P,o27_26 P]
def S2 (w:aw) (os:au):f7:=mkS (t2 w.params) 28 1226 os
def L2c (w:aw) (os:au):=run_ 27 w (S2b2 w os) thr2
def R2c (w:aw) (os:au):=nx (S2 w os) z2
theorem W2c:seenB (L2c,R2c)=true:=by k_qdec
theorem E2c: ∀w os,L2c w os=R2c w os:=eqU te10216432506863302546 fun w os=>by kernel_rfl
def P2 (w:aw):Prop:=PP w 9552 S1 (psT 3 1 z1) S2 z2
theorem Z2 (w:aw) (os:au) (n:Nat) (h:go_ n w (S1 w os) (psT 3 1 z1)=some ((S2a w os),thr2)):segRun treeTable pw w 11 annV 1 (n+(4736+(4736+27))) (i4 (S1 w os)) (psT 3 1 z1)=some (.next,i4 (S2 w os),cE,z2):=seg_go (segGo_of h) (seg_go (segGo_of (E2b1 w os)) (seg_go (segGo_of (E2b2 w os)) (segRun_of (E2c w os))))
theorem F2 (w:aw):P2 w:=(byRow2 "special-get-raises" (P:=fun w=>P2 w) (byRow2 "comprehension-iter-twice" (P:=fun w=>P2 (vf w)) (fun w os=>run_more (Z2 _ os _ (E2aff w os)) (by decide)) (fun w os=>run_more (Z2 _ os _ (E2atf w os)) (by decide))) (byRow2 "comprehension-iter-twice" (P:=fun w=>P2 (vt w)) (fun w os=>run_more (Z2 _ os _ (E2aft w os)) (by decide)) (fun w os=>run_more (Z2 _ os _ (E2att w os)) (by decide)))) w
def o3_27 (P:ah):Obj:=Td (.dict #[en P qbd 165 (.str qai 1241),en P qah 166 .none,en P qbj 167 .none,en P qbk 168 (.builtin SL.s7097527257260152453x26),en P qbl 169 .none,en P qbm 170 (.ref 6),en P qbn 171 (.ref 4),en P qbo 173 (.str qaa 172),en P qbp 174 .none,en P qad 193 (.ref 21),en P qbq 195 (.str qbr 194),en P qbs 197 (.str qaq 196),en P qcd 1225 (.ref 24),en P qcf 1226 (.ref 29),en P qcg 1227 (.ref 31),en P qch 1229 (.str qci 1228),en P qcj 1231 (.str qck 1230),en P qcl 1233 (.str qcm 1232),en P qcn 1235 (.str qco 1234),en P qcp 1240 (.str qcq 1239)] 20)
def o28_28 (P:ah):Obj:=Tk (.fields #[.none, .none, .none])
def lo29_29:List ak:=hexl 204 256
def o29_29 (P:ah):Obj:=Te (.seq (lo29_29).toArray 0)
def o30_30 (P:ah):Obj:=Tk (.fields #[.none, .none, .none])
def lo31_31:List ak:=hexl 204 256
def o31_31 (P:ah):Obj:=Te (.seq (lo31_31).toArray 0)
def t3 (P:ah):BT:=insL ((t2 P).set 3 fun _=>o3_27 P) 28 [o28_28 P,o29_29 P,o30_30 P,o31_31 P]
def S3 (w:aw) (os:au):f7:=mkS (t3 w.params) 32 1243 os
def L3 (w:aw) (os:au):=run_ 133 w (S2 w os) (psT 4 8 z2)
def R3 (w:aw) (os:au):=nx (S3 w os) z3
theorem W3:seenB (L3,R3)=true:=by k_qdec
theorem E3: ∀w os,L3 w os=R3 w os:=eqU te4039808100498889136 fun w os=>by kernel_rfl
def P3 (w:aw):Prop:=PP w 133 S2 (psT 4 8 z2) S3 z3
theorem F3 (w:aw):P3 w:=fun os=>segRun_of (E3 w os)
def o32_32 (P:ah):Obj:=Tf (.fields #[(.bytes #[45,33,42,43,47,97,98,99,100,101,102,103,104,105,106,107,108,109,110,111,112,113,114,115,116,117,118,119,120,121,122,65,66,67,68,69,70,71,72,73,74,75,76,77,78,79,80,81,82,83,84,85,86,87,88,89,90,48,49,50,51,52,53,54,55,56,57] 1249),(iZ 0)])
def t4a (P:ah):BT:=insL (t3 P) 32 [o32_32 P]
def S4a (w:aw) (os:au):f7:=mkS (t4a w.params) 33 1250 os
def thr4:Thread:=getT (go_ 45 w1 (S3 w1 default) (psT 12 1 z3)) (psT 12 1 z3)
def L4af (w:aw) (os:au):=go_ 45 (vf w) (S3 (vf w) os) (psT 12 1 z3)
def R4af (w:aw) (os:au):=some ((S4a (vf w) os),thr4)
theorem W4af:seenB (L4af,R4af)=true:=by k_qdec
theorem E4af: ∀w os,L4af w os=R4af w os:=eqT te15870012833377674692 te7254207306872162807 fun w os=>by kernel_rfl
def L4at (w:aw) (os:au):=go_ 45 (vt w) (S3 (vt w) os) (psT 12 1 z3)
def R4at (w:aw) (os:au):=some ((S4a (vt w) os),thr4)
theorem W4at:seenB (L4at,R4at)=true:=by k_qdec
theorem E4at: ∀w os,L4at w os=R4at w os:=eqT te2620345587057661070 te11962167145100861985 fun w os=>by kernel_rfl
def eo3_33 (P:ah):List i6:=[en P qbd 165 (.str qai 1241),en P qah 166 .none,en P qbj 167 .none,en P qbk 168 (.builtin SL.s7097527257260152453x26),en P qbl 169 .none,en P qbm 170 (.ref 6),en P qbn 171 (.ref 4),en P qbo 173 (.str qaa 172),en P qbp 174 .none,en P qad 193 (.ref 21),en P qbq 195 (.str qbr 194),en P qbs 197 (.str qaq 196),en P qcd 1225 (.ref 24),en P qcf 1226 (.ref 29),en P qcg 1227 (.ref 31),en P qch 1229 (.str qci 1228),en P qcj 1231 (.str qck 1230),en P qcl 1233 (.str qcm 1232),en P qcn 1235 (.str qco 1234),en P qcp 1240 (.str qcq 1239),en P qar 1251 (.int (57) 1448)]
def o3_33 (P:ah):Obj:=Td (.dict (eo3_33 P).toArray 21)
def lo29_34:List ak:=putl (lo29_29) [(33,(33,1255)),(42,(42,1258)),(43,(43,1261)),(45,(45,1252)),(47,(47,1264)),(48,(48,1423)),(49,(49,1426)),(50,(50,1429)),(51,(51,1432)),(52,(52,1435)),(53,(53,1438)),(54,(54,1441)),(55,(55,1444)),(56,(56,1447)),(57,(57,1450)),(65,(65,1345)),(66,(66,1348)),(67,(67,1351)),(68,(68,1354)),(69,(69,1357)),(70,(70,1360)),(71,(71,1363)),(72,(72,1366)),(73,(73,1369)),(74,(74,1372)),(75,(75,1375)),(76,(76,1378)),(77,(77,1381)),(78,(78,1384)),(79,(79,1387)),(80,(80,1390)),(81,(81,1393)),(82,(82,1396)),(83,(83,1399)),(84,(84,1402)),(85,(85,1405)),(86,(86,1408)),(87,(87,1411)),(88,(88,1414)),(89,(89,1417)),(90,(90,1420)),(97,(97,1267)),(98,(98,1270)),(99,(99,1273)),(100,(100,1276)),(101,(101,1279)),(102,(102,1282)),(103,(103,1285)),(104,(104,1288)),(105,(105,1291)),(106,(106,1294)),(107,(107,1297)),(108,(108,1300)),(109,(109,1303)),(110,(110,1306)),(111,(111,1309)),(112,(112,1312)),(113,(113,1315)),(114,(114,1318)),(115,(115,1321)),(116,(116,1324)),(117,(117,1327)),(118,(118,1330)),(119,(119,1333)),(120,(120,1336)),(121,(121,1339)),(122,(122,1342))]
def o29_34 (P:ah):Obj:=Te (.seq (lo29_34).toArray 0)
def o32_35 (P:ah):Obj:=Tf (.fields #[(.bytes #[45,33,42,43,47,97,98,99,100,101,102,103,104,105,106,107,108,109,110,111,112,113,114,115,116,117,118,119,120,121,122,65,66,67,68,69,70,71,72,73,74,75,76,77,78,79,80,81,82,83,84,85,86,87,88,89,90,48,49,50,51,52,53,54,55,56,57] 1249),(iZ 67)])
def t4b1 (P:ah):BT:=((((t4a P).set 3 fun _=>o3_33 P).set 29 fun _=>o29_34 P).set 32 fun _=>o32_35 P)
def S4b1 (w:aw) (os:au):f7:=mkS (t4b1 w.params) 33 1451 os
def L4b1 (w:aw) (os:au):=go_ 3015 w (S4a w os) thr4
def R4b1 (w:aw) (os:au):=some ((S4b1 w os),thr4)
theorem W4b1:seenB (L4b1,R4b1)=true:=by k_qdec
theorem E4b1: ∀w os,L4b1 w os=R4b1 w os:=eqT te2950118591545384162 te5820559933034107400 fun w os=>by kernel_rfl
def o32_36 (P:ah):Obj:=Tf (.fields #[.none,(iZ 67)])
def o33_37 (P:ah):Obj:=Ta (.seq #[] 0)
def o34_38 (P:ah):Obj:=Ti (.fields #[(.ref 33), .none, .none, .none,(.bool false), .none])
def t4 (P:ah):BT:=insL ((t4b1 P).set 32 fun _=>o32_36 P) 33 [o33_37 P,o34_38 P]
def S4 (w:aw) (os:au):f7:=mkS (t4 w.params) 35 1451 os
def L4c (w:aw) (os:au):=run_ 17 w (S4b1 w os) thr4
def R4c (w:aw) (os:au):=nx (S4 w os) z4
theorem W4c:seenB (L4c,R4c)=true:=by k_qdec
theorem E4c: ∀w os,L4c w os=R4c w os:=eqU te8278239634871828763 fun w os=>by kernel_rfl
def P4 (w:aw):Prop:=PP w 3087 S3 (psT 12 1 z3) S4 z4
theorem Z4 (w:aw) (os:au) (n:Nat) (h:go_ n w (S3 w os) (psT 12 1 z3)=some ((S4a w os),thr4)):segRun treeTable pw w 11 annV 1 (n+(3015+17)) (i4 (S3 w os)) (psT 12 1 z3)=some (.next,i4 (S4 w os),cE,z4):=seg_go (segGo_of h) (seg_go (segGo_of (E4b1 w os)) (segRun_of (E4c w os)))
theorem F4 (w:aw):P4 w:=(byRow2 "special-get-raises" (P:=fun w=>P4 w) (fun w os=>run_more (Z4 _ os _ (E4af w os)) (by decide)) (fun w os=>run_more (Z4 _ os _ (E4at w os)) (by decide))) w
def lo29_39:List ak:=putl (lo29_34) [(32,(95,1451))]
def o29_39 (P:ah):Obj:=Te (.seq (lo29_39).toArray 0)
def t5 (P:ah):BT:=((t4 P).set 29 fun _=>o29_39 P)
def S5 (w:aw) (os:au):f7:=mkS (t5 w.params) 35 1454 os
def L5 (w:aw) (os:au):=run_ 25 w (S4 w os) (psT 13 1 z4)
def R5 (w:aw) (os:au):=nx (S5 w os) z5
theorem W5:seenB (L5,R5)=true:=by k_qdec
theorem E5: ∀w os,L5 w os=R5 w os:=eqU te14237063120780957669 fun w os=>by kernel_rfl
def P5 (w:aw):Prop:=PP w 25 S4 (psT 13 1 z4) S5 z5
theorem F5 (w:aw):P5 w:=fun os=>segRun_of (E5 w os)
def o35_40 (P:ah):Obj:=Tf (.fields #[(.bytes #[32,33,34,35,36,37,38,39,40,41,42,43,44,45,46,47,48,49,50,51,52,53,54,55,56,57,58,59,60,62,63,64,65,66,67,68,69,70,71,72,73,74,75,76,77,78,79,80,81,82,83,84,85,86,87,88,89,90,91,92,93,94,95,96,97,98,99,100,101,102,103,104,105,106,107,108,109,110,111,112,113,114,115,116,117,118,119,120,121,122,123,124,125,126,9] 1454),(iZ 0)])
def t6a (P:ah):BT:=insL (t5 P) 35 [o35_40 P]
def S6a (w:aw) (os:au):f7:=mkS (t6a w.params) 36 1455 os
def thr6:Thread:=getT (go_ 11 w1 (S5 w1 default) (psT 14 1 z5)) (psT 14 1 z5)
def L6af (w:aw) (os:au):=go_ 11 (vf w) (S5 (vf w) os) (psT 14 1 z5)
def R6af (w:aw) (os:au):=some ((S6a (vf w) os),thr6)
theorem W6af:seenB (L6af,R6af)=true:=by k_qdec
theorem E6af: ∀w os,L6af w os=R6af w os:=eqT te18400894466442837013 te14249092225594156146 fun w os=>by kernel_rfl
def L6at (w:aw) (os:au):=go_ 11 (vt w) (S5 (vt w) os) (psT 14 1 z5)
def R6at (w:aw) (os:au):=some ((S6a (vt w) os),thr6)
theorem W6at:seenB (L6at,R6at)=true:=by k_qdec
theorem E6at: ∀w os,L6at w os=R6at w os:=eqT te5461345621451650332 te5021277636219933432 fun w os=>by kernel_rfl
def eo3_41 (P:ah):List i6:=(((eo3_33 P)).set 20 (en P qar 1251 (.int (9) 1737)))
def o3_41 (P:ah):Obj:=Td (.dict (eo3_41 P).toArray 21)
def lo31_42:List ak:=putl (lo31_31) [(9,(9,1739)),(32,(32,1457)),(33,(33,1460)),(34,(34,1463)),(35,(35,1466)),(36,(36,1469)),(37,(37,1472)),(38,(38,1475)),(39,(39,1478)),(40,(40,1481)),(41,(41,1484)),(42,(42,1487)),(43,(43,1490)),(44,(44,1493)),(45,(45,1496)),(46,(46,1499)),(47,(47,1502)),(48,(48,1505)),(49,(49,1508)),(50,(50,1511)),(51,(51,1514)),(52,(52,1517)),(53,(53,1520)),(54,(54,1523)),(55,(55,1526)),(56,(56,1529)),(57,(57,1532)),(58,(58,1535)),(59,(59,1538)),(60,(60,1541)),(62,(62,1544)),(63,(63,1547)),(64,(64,1550)),(65,(65,1553)),(66,(66,1556)),(67,(67,1559)),(68,(68,1562)),(69,(69,1565)),(70,(70,1568)),(71,(71,1571)),(72,(72,1574)),(73,(73,1577)),(74,(74,1580)),(75,(75,1583)),(76,(76,1586)),(77,(77,1589)),(78,(78,1592)),(79,(79,1595)),(80,(80,1598)),(81,(81,1601)),(82,(82,1604)),(83,(83,1607)),(84,(84,1610)),(85,(85,1613)),(86,(86,1616)),(87,(87,1619)),(88,(88,1622)),(89,(89,1625)),(90,(90,1628)),(91,(91,1631)),(92,(92,1634)),(93,(93,1637)),(94,(94,1640)),(95,(95,1643)),(96,(96,1646)),(97,(97,1649)),(98,(98,1652)),(99,(99,1655)),(100,(100,1658)),(101,(101,1661)),(102,(102,1664)),(103,(103,1667)),(104,(104,1670)),(105,(105,1673)),(106,(106,1676)),(107,(107,1679)),(108,(108,1682)),(109,(109,1685)),(110,(110,1688)),(111,(111,1691)),(112,(112,1694)),(113,(113,1697)),(114,(114,1700)),(115,(115,1703)),(116,(116,1706)),(117,(117,1709)),(118,(118,1712)),(119,(119,1715)),(120,(120,1718)),(121,(121,1721)),(122,(122,1724)),(123,(123,1727)),(124,(124,1730)),(125,(125,1733)),(126,(126,1736))]
def o31_42 (P:ah):Obj:=Te (.seq (lo31_42).toArray 0)
def o35_43 (P:ah):Obj:=Tf (.fields #[(.bytes #[32,33,34,35,36,37,38,39,40,41,42,43,44,45,46,47,48,49,50,51,52,53,54,55,56,57,58,59,60,62,63,64,65,66,67,68,69,70,71,72,73,74,75,76,77,78,79,80,81,82,83,84,85,86,87,88,89,90,91,92,93,94,95,96,97,98,99,100,101,102,103,104,105,106,107,108,109,110,111,112,113,114,115,116,117,118,119,120,121,122,123,124,125,126,9] 1454),(iZ 95)])
def t6b1 (P:ah):BT:=((((t6a P).set 3 fun _=>o3_41 P).set 31 fun _=>o31_42 P).set 35 fun _=>o35_43 P)
def S6b1 (w:aw) (os:au):f7:=mkS (t6b1 w.params) 36 1740 os
def L6b1 (w:aw) (os:au):=go_ 4275 w (S6a w os) thr6
def R6b1 (w:aw) (os:au):=some ((S6b1 w os),thr6)
theorem W6b1:seenB (L6b1,R6b1)=true:=by k_qdec
theorem E6b1: ∀w os,L6b1 w os=R6b1 w os:=eqT te16794998409472982095 te403666733835151733 fun w os=>by kernel_rfl
def o35_44 (P:ah):Obj:=Tf (.fields #[.none,(iZ 95)])
def o36_45 (P:ah):Obj:=Ta (.seq #[] 0)
def o37_46 (P:ah):Obj:=Ti (.fields #[(.ref 36), .none, .none, .none,(.bool false), .none])
def t6 (P:ah):BT:=insL ((t6b1 P).set 35 fun _=>o35_44 P) 36 [o36_45 P,o37_46 P]
def S6 (w:aw) (os:au):f7:=mkS (t6 w.params) 38 1740 os
def L6c (w:aw) (os:au):=run_ 17 w (S6b1 w os) thr6
def R6c (w:aw) (os:au):=nx (S6 w os) z6
theorem W6c:seenB (L6c,R6c)=true:=by k_qdec
theorem E6c: ∀w os,L6c w os=R6c w os:=eqU te6527538124533662641 fun w os=>by kernel_rfl
def P6 (w:aw):Prop:=PP w 4313 S5 (psT 14 1 z5) S6 z6
theorem Z6 (w:aw) (os:au) (n:Nat) (h:go_ n w (S5 w os) (psT 14 1 z5)=some ((S6a w os),thr6)):segRun treeTable pw w 11 annV 1 (n+(4275+17)) (i4 (S5 w os)) (psT 14 1 z5)=some (.next,i4 (S6 w os),cE,z6):=seg_go (segGo_of h) (seg_go (segGo_of (E6b1 w os)) (segRun_of (E6c w os)))
theorem F6 (w:aw):P6 w:=(byRow2 "special-get-raises" (P:=fun w=>P6 w) (fun w os=>run_more (Z6 _ os _ (E6af w os)) (by decide)) (fun w os=>run_more (Z6 _ os _ (E6at w os)) (by decide))) w
def eo3_47 (P:ah):List i6:=(eo3_41 P)++[en P qaj 1746 (.ref 44),en P qak 1753 (.ref 51),en P qal 1760 (.ref 58),en P qam 1767 (.ref 65),en P qde 1768 (.ref 67)]
def o3_47 (P:ah):Obj:=Td (.dict (eo3_47 P).toArray 26)
def o12_48 (P:ah):Obj:=oN (.fields #[(iZ 1),(iZ 0),(.ref 20),(iZ 20),(iZ 0),(.ref 43),(iZ 22),(iZ 0),(.ref 50),(iZ 24),(iZ 0),(.ref 57),(iZ 26),(iZ 0),(.ref 64)])
def o38_49 (P:ah):Obj:=Ta (.seq #[] 0)
def o39_50 (P:ah):Obj:=oN (.fields #[])
def o40_51 (P:ah):Obj:=Ta (.seq #[(.str qcr 1743)] 0)
def o41_52 (P:ah):Obj:=Ta (.seq #[] 0)
def o42_53 (P:ah):Obj:=oN (.func (fdAt (aD 15) qaj qaj 0 [] .none .none .none .none none .none .none 0))
def o43_54 (P:ah):Obj:=cB qaj qaj 1740 20 1 3 38 1744
def o44_55 (P:ah):Obj:=Tc (.func (fdAt (aD 15) qaj qaj 3 [] .none .none .none (.str qai 1241) none (.ref 43) .none 0))
def o45_56 (P:ah):Obj:=Ta (.seq #[] 0)
def o46_57 (P:ah):Obj:=oN (.fields #[])
def o47_58 (P:ah):Obj:=Ta (.seq #[(.str qcr 1750)] 0)
def o48_59 (P:ah):Obj:=Ta (.seq #[] 0)
def o49_60 (P:ah):Obj:=oN (.func (fdAt (aD 16) qak qak 0 [] .none .none .none .none none .none .none 0))
def o50_61 (P:ah):Obj:=cB qak qak 1747 22 1 3 45 1751
def o51_62 (P:ah):Obj:=Tc (.func (fdAt (aD 16) qak qak 3 [] .none .none .none (.str qai 1241) none (.ref 50) .none 0))
def o52_63 (P:ah):Obj:=Ta (.seq #[] 0)
def o53_64 (P:ah):Obj:=oN (.fields #[])
def o54_65 (P:ah):Obj:=Ta (.seq #[(.str (sQ 1 0x73) 1757)] 0)
def o55_66 (P:ah):Obj:=Ta (.seq #[] 0)
def o56_67 (P:ah):Obj:=oN (.func (fdAt (aD 17) qal qal 0 [] .none .none .none .none none .none .none 0))
def o57_68 (P:ah):Obj:=cB qal qal 1754 24 1 3 52 1758
def o58_69 (P:ah):Obj:=Tc (.func (fdAt (aD 17) qal qal 3 [] .none .none .none (.str qai 1241) none (.ref 57) .none 0))
def o59_70 (P:ah):Obj:=Ta (.seq #[] 0)
def o60_71 (P:ah):Obj:=oN (.fields #[])
def o61_72 (P:ah):Obj:=Ta (.seq #[(.str qar 1764)] 0)
def o62_73 (P:ah):Obj:=Ta (.seq #[] 0)
def o63_74 (P:ah):Obj:=oN (.func (fdAt (aD 18) qam qam 0 [] .none .none .none .none none .none .none 0))
def o64_75 (P:ah):Obj:=cB qam qam 1761 26 1 3 59 1765
def o65_76 (P:ah):Obj:=Tc (.func (fdAt (aD 18) qam qam 3 [] .none .none .none (.str qai 1241) none (.ref 64) .none 0))
def o66_77 (P:ah):Obj:=Tk (.fields #[.none, .none, .none])
def lo67_78:List ak:=putl (lo31_42) []
def o67_78 (P:ah):Obj:=Te (.seq (lo67_78).toArray 0)
def t7 (P:ah):BT:=insL (((t6 P).set 3 fun _=>o3_47 P).set 12 fun _=>o12_48 P) 38 [o38_49 P,o39_50 P,o40_51 P,o41_52 P,o42_53 P,o43_54 P,o44_55 P,o45_56 P,o46_57 P,o47_58 P,o48_59 P,o49_60 P,o50_61 P,o51_62 P,o52_63 P,o53_64 P,o54_65 P,o55_66 P,o56_67 P,o57_68 P,o58_69 P,o59_70 P,o60_71 P,o61_72 P,o62_73 P,o63_74 P,o64_75 P,o65_76 P,o66_77 P,o67_78 P]
def S7 (w:aw) (os:au):f7:=mkS (t7 w.params) 68 1769 os
def L7 (w:aw) (os:au):=run_ 144 w (S6 w os) (psT 15 5 z6)
def R7 (w:aw) (os:au):=nx (S7 w os) z7
theorem W7:seenB (L7,R7)=true:=by k_qdec
theorem E7: ∀w os,L7 w os=R7 w os:=eqT te13075832673008826542 te5419012550363781313 fun w os=>by kernel_rfl
def P7 (w:aw):Prop:=PP w 144 S6 (psT 15 5 z6) S7 z7
theorem F7 (w:aw):P7 w:=fun os=>segRun_of (E7 w os)
def eo3_79 (P:ah):List i6:=(((eo3_47 P)).set 20 (en P qar 1251 (.int (10) 1773)))
def o3_79 (P:ah):Obj:=Td (.dict (eo3_79 P).toArray 26)
def lo67_80:List ak:=putl (lo67_78) [(10,(10,1775)),(13,(13,1772))]
def o67_80 (P:ah):Obj:=Te (.seq (lo67_80).toArray 0)
def o68_81 (P:ah):Obj:=Tf (.fields #[.none,(iZ 2)])
def o69_82 (P:ah):Obj:=Ta (.seq #[] 0)
def o70_83 (P:ah):Obj:=Ti (.fields #[(.ref 69), .none, .none, .none,(.bool false), .none])
def t8 (P:ah):BT:=insL (((t7 P).set 3 fun _=>o3_79 P).set 67 fun _=>o67_80 P) 68 [o68_81 P,o69_82 P,o70_83 P]
def S8 (w:aw) (os:au):f7:=mkS (t8 w.params) 71 1776 os
def L8f (w:aw) (os:au):=run_ 118 (vf w) (S7 (vf w) os) (psT 20 1 z7)
def R8f (w:aw) (os:au):=nx (S8 (vf w) os) z8
theorem W8f:seenB (L8f,R8f)=true:=by k_qdec
theorem E8f: ∀w os,L8f w os=R8f w os:=eqT te3523085181385997415 te3586203587561606832 fun w os=>by kernel_rfl
def L8t (w:aw) (os:au):=run_ 118 (vt w) (S7 (vt w) os) (psT 20 1 z7)
def R8t (w:aw) (os:au):=nx (S8 (vt w) os) z8
theorem W8t:seenB (L8t,R8t)=true:=by k_qdec
theorem E8t: ∀w os,L8t w os=R8t w os:=eqT te13752113465316808895 te13365766965925812370 fun w os=>by kernel_rfl
def P8 (w:aw):Prop:=PP w 118 S7 (psT 20 1 z7) S8 z8
theorem F8 (w:aw):P8 w:=(byRow2 "special-get-raises" (P:=fun w=>P8 w) (fun w os=>segRun_of (E8f w os)) (fun w os=>segRun_of (E8t w os))) w
def eo3_84 (P:ah):List i6:=[en P qbd 165 (.str qab 1809),en P qah 166 .none,en P qbj 167 .none,en P qbk 168 (.builtin SL.s7097527257260152453x26),en P qbl 169 .none,en P qbm 170 (.ref 6),en P qbn 171 (.ref 4),en P qbo 173 (.str qaa 172),en P qbp 174 .none,en P qad 193 (.ref 21),en P qbq 195 (.str qbr 194),en P qbs 197 (.str qaq 196),en P qcd 1225 (.ref 24),en P qcf 1226 (.ref 29),en P qcg 1227 (.ref 31),en P qch 1229 (.str qci 1228),en P qcj 1231 (.str qck 1230),en P qcl 1233 (.str qcm 1232),en P qcn 1235 (.str qco 1234),en P qcp 1240 (.str qcq 1239),en P qaj 1746 (.ref 44),en P qak 1753 (.ref 51),en P qal 1760 (.ref 58),en P qam 1767 (.ref 65),en P qde 1768 (.ref 67),en P qas 1795 (.ref 78),en P qat 1808 (.ref 86),en P (sQ 9 0x54554f5f45444f4e5f) 1813 (.int (-1) 1812),en P (sQ 10 0x454e4f445f45444f4e5f) 1816 (.int (-2) 1815)]
def o3_84 (P:ah):Obj:=Td (.dict (eo3_84 P).toArray 31)
def o12_85 (P:ah):Obj:=oN (.fields #[(iZ 1),(iZ 0),(.ref 20),(iZ 20),(iZ 0),(.ref 43),(iZ 22),(iZ 0),(.ref 50),(iZ 24),(iZ 0),(.ref 57),(iZ 26),(iZ 0),(.ref 64),(iZ 32),(iZ 0),(.ref 77),(iZ 70),(iZ 0),(.ref 85)])
def o71_86 (P:ah):Obj:=Ta (.seq #[(.int (76) 1776),(.str qaq 196)] 0)
def o72_87 (P:ah):Obj:=Ta (.seq #[] 0)
def o73_88 (P:ah):Obj:=oN (.fields #[])
def o74_89 (P:ah):Obj:=Ta (.seq #[(.str (sQ 4 0x79646f62) 1780),(.str (sQ 10 0x6e656c656e696c78616d) 1781),(.str (sQ 3 0x6c6f65) 1782),(.str (sQ 10 0x6b616572625f74666f73) 1783),(.str (sQ 11 0x316e656c656e696c78616d) 1784),(.str (sQ 12 0x79646f625f6465646f636e65) 1785),(.str (sQ 6 0x646e65707061) 1786),(.str (sQ 4 0x656e696c) 1787),(.str (sQ 5 0x7472617473) 1788),(.str (sQ 9 0x74726174737473616c) 1789),(.str (sQ 4 0x706f7473) 1790),(.str (sQ 4 0x6d6f6f72) 1791),(.str (sQ 1 0x71) 1792)] 0)
def o75_90 (P:ah):Obj:=Ta (.seq #[] 0)
def o76_91 (P:ah):Obj:=oN (.func (fdAt (aD 22) qas qas 0 [] .none .none .none .none none .none .none 0))
def o77_92 (P:ah):Obj:=cB qas qas 1777 32 3 3 72 1793
def o78_93 (P:ah):Obj:=Tc (.func (fdAt (aD 22) qas qas 3 [] (.ref 71) .none .none (.str qai 1241) none (.ref 77) .none 0))
def o79_94 (P:ah):Obj:=Ta (.seq #[(.str qaq 196)] 0)
def o80_95 (P:ah):Obj:=Ta (.seq #[] 0)
def o81_96 (P:ah):Obj:=oN (.fields #[])
def o82_97 (P:ah):Obj:=Ta (.seq #[(.str (sQ 7 0x6465646f636e65) 1799),(.str (sQ 3 0x6c6f65) 1800),(.str (sQ 7 0x6465646f636564) 1801),(.str (sQ 4 0x656e696c) 1802),(.str (sQ 1 0x69) 1803),(.str (sQ 1 0x6e) 1804),(.str qar 1805)] 0)
def o83_98 (P:ah):Obj:=Ta (.seq #[] 0)
def o84_99 (P:ah):Obj:=oN (.func (fdAt (aD 23) qat qat 0 [] .none .none .none .none none .none .none 0))
def o85_100 (P:ah):Obj:=cB qat qat 1796 70 2 3 80 1806
def o86_101 (P:ah):Obj:=Tc (.func (fdAt (aD 23) qat qat 3 [] (.ref 79) .none .none (.str qai 1241) none (.ref 85) .none 0))
def t9 (P:ah):BT:=insL (((t8 P).set 3 fun _=>o3_84 P).set 12 fun _=>o12_85 P) 71 [o71_86 P,o72_87 P,o73_88 P,o74_89 P,o75_90 P,o76_91 P,o77_92 P,o78_93 P,o79_94 P,o80_95 P,o81_96 P,o82_97 P,o83_98 P,o84_99 P,o85_100 P,o86_101 P]
def S9 (w:aw) (os:au):f7:=mkS (t9 w.params) 87 1817 os
def L9 (w:aw) (os:au):=run_ 127 w (S8 w os) (psT 21 6 z8)
def R9 (w:aw) (os:au):=nx (S9 w os) z9
theorem W9:seenB (L9,R9)=true:=by k_qdec
theorem E9: ∀w os,L9 w os=R9 w os:=eqT te2262106760630291687 te16581718381334107129 fun w os=>by kernel_rfl
def P9 (w:aw):Prop:=PP w 127 S8 (psT 21 6 z8) S9 z9
theorem F9 (w:aw):P9 w:=fun os=>segRun_of (E9 w os)
def eo3_102 (P:ah):List i6:=(eo3_84 P)++[en P qan 1853 (.ref 105),en P qao 1871 (.ref 120)]
def o3_102 (P:ah):Obj:=Td (.dict (eo3_102 P).toArray 33)
def o12_103 (P:ah):Obj:=oN (.fields #[(iZ 1),(iZ 0),(.ref 20),(iZ 20),(iZ 0),(.ref 43),(iZ 22),(iZ 0),(.ref 50),(iZ 24),(iZ 0),(.ref 57),(iZ 26),(iZ 0),(.ref 64),(iZ 32),(iZ 0),(.ref 77),(iZ 70),(iZ 0),(.ref 85),(iZ 103),(iZ 0),(.ref 92),(iZ 110),(iZ 0),(.ref 116)])
def o87_104 (P:ah):Obj:=Ta (.seq #[] 0)
def o88_105 (P:ah):Obj:=Tg (.fields #[(.builtin SL.s10062305145149207511x16),(.type SL.s17162191345867700912x4)])
def o89_106 (P:ah):Obj:=Td (.dict #[en P qbe 1824 (.str qab 1809),en P qcs 1826 (.str qan 1825),en P qbf 1828 (.int (103) 1827),en P (sQ 9 0x5f5f73746f6c735f5f) 1832 (.ref 94),en P qae 1840 (.ref 101),en P qbg 1844 (.ref 102)] 6)
def o90_107 (P:ah):Obj:=Ta (.seq #[] 0)
def o91_108 (P:ah):Obj:=oN (.fields #[(iZ 106),(iZ 4),(.ref 100)])
def o92_109 (P:ah):Obj:=cA qan qan 1819 103 0 0 90 1822
def o93_110 (P:ah):Obj:=⟨(.type SL.s658472552662922059x5),none, .plain,#[some (.ref 92),some (.ref 3),some (.ref 89),none,some (.str qab 1809),none,some (.ref 0)]⟩
def o94_111 (P:ah):Obj:=Ta (.seq #[(.str qac 1829),(.str qbh 1830),(.str qbi 1831)] 0)
def o95_112 (P:ah):Obj:=Ta (.seq #[] 0)
def o96_113 (P:ah):Obj:=oN (.fields #[])
def o97_114 (P:ah):Obj:=Ta (.seq #[(.str qaf 1836),(.str qac 1837)] 0)
def o98_115 (P:ah):Obj:=Ta (.seq #[] 0)
def o99_116 (P:ah):Obj:=oN (.func (fdAt (aK 27 1) qae qct 0 [] .none .none .none .none none .none .none 0))
def o100_117 (P:ah):Obj:=cB qae qct 1833 106 2 3 95 1838
def o101_118 (P:ah):Obj:=Tc (.func (fdAt (aK 27 1) qae qct 3 [] .none .none .none (.str qab 1809) none (.ref 100) .none 0))
def o102_119 (P:ah):Obj:=Ta (.seq #[(.str qac 1841),(.str qbh 1842),(.str qbi 1843)] 0)
def o103_120 (P:ah):Obj:=Te (.seq #[(.str qac 1829),(.str qbh 1830),(.str qbi 1831)] 1)
def o104_121 (P:ah):Obj:=Td (.dict #[en P qbe 1824 (.str qab 1809),en P qbf 1828 (.int (103) 1827),en P (sQ 9 0x5f5f73746f6c735f5f) 1832 (.ref 94),en P qae 1840 (.ref 101),en P qbg 1844 (.ref 102),en P qac 1846 (.ref 106),en P qbh 1848 (.ref 107),en P qbi 1850 (.ref 108),en P qah 1851 .none] 5)
def o105_122 (P:ah):Obj:=⟨(.type SL.s17162191345867700912x4),none,(.cls ⟨qan,[(.type SL.s2742458400755230247x6)],[(.ref 105),(.type SL.s2742458400755230247x6)],104,qan,false,[qac,qbh,qbi],[],false,none,false⟩),#[none,none,some (.str qan 1817),some (.str qan 1825),some (.builtin SL.s11443829558043349243x14),some (.bool false)]⟩
def o106_123 (P:ah):Obj:=Tm (.fields #[(.str qac 1845),(.ref 105),(.builtin SL.s6779124196712981104x10),(.builtin SL.s2924395122027826103x14),(iZ 2)])
def o107_124 (P:ah):Obj:=Tm (.fields #[(.str qbh 1847),(.ref 105),(.builtin SL.s6779124196712981104x10),(.builtin SL.s2924395122027826103x14),(iZ 1)])
def o108_125 (P:ah):Obj:=Tm (.fields #[(.str qbi 1849),(.ref 105),(.builtin SL.s6779124196712981104x10),(.builtin SL.s2924395122027826103x14),(iZ 0)])
def o109_126 (P:ah):Obj:=Tn (.fields #[(.ref 105),(.ref 105),(.ref 105)])
def o110_127 (P:ah):Obj:=Tg (.fields #[(.builtin SL.s4860613602091757760x24),(.ref 105)])
def o111_128 (P:ah):Obj:=Ta (.seq #[(.type SL.s6070975301684473832x10)] 0)
def o112_129 (P:ah):Obj:=Tg (.fields #[(.builtin SL.s10062305145149207511x16),(.type SL.s17162191345867700912x4)])
def o113_130 (P:ah):Obj:=Td (.dict #[en P qbe 1861 (.str qab 1809),en P qcs 1863 (.str qao 1862),en P qbf 1865 (.int (110) 1864),en P qbg 1866 (.ref 118)] 4)
def o114_131 (P:ah):Obj:=Ta (.seq #[] 0)
def o115_132 (P:ah):Obj:=oN (.fields #[])
def o116_133 (P:ah):Obj:=cA qao qao 1856 110 0 0 114 1859
def o117_134 (P:ah):Obj:=⟨(.type SL.s658472552662922059x5),none, .plain,#[some (.ref 116),some (.ref 3),some (.ref 113),none,some (.str qab 1809),none,some (.ref 0)]⟩
def o118_135 (P:ah):Obj:=Ta (.seq #[] 0)
def o119_136 (P:ah):Obj:=Td (.dict #[en P qbe 1861 (.str qab 1809),en P qbf 1865 (.int (110) 1864),en P qbg 1866 (.ref 118),en P qce 1868 (.ref 121),en P qah 1869 .none] 3)
def o120_137 (P:ah):Obj:=⟨(.type SL.s17162191345867700912x4),none,(.cls ⟨qao,[(.type SL.s6070975301684473832x10)],[(.ref 120),(.type SL.s6070975301684473832x10),(.type SL.s5946037652744460706x9),(.type SL.s4278001404047624695x13),(.type SL.s2742458400755230247x6)],119,qao,true,[],[],false,none,false⟩),#[some (.ref 111),none,some (.str qao 1854),some (.str qao 1862),some (.builtin SL.s4209523147560561109x18),some (.bool true)]⟩
def o121_138 (P:ah):Obj:=To (.fields #[(.str qce 1867),(.ref 120),(.builtin SL.s10220274742760427390x26), .none])
def o122_139 (P:ah):Obj:=Tn (.fields #[(.ref 120),(.ref 120),(.ref 120)])
def o123_140 (P:ah):Obj:=Tg (.fields #[(.builtin SL.s4860613602091757760x24),(.ref 120)])
def t10 (P:ah):BT:=insL (((t9 P).set 3 fun _=>o3_102 P).set 12 fun _=>o12_103 P) 87 [o87_104 P,o88_105 P,o89_106 P,o90_107 P,o91_108 P,o92_109 P,o93_110 P,o94_111 P,o95_112 P,o96_113 P,o97_114 P,o98_115 P,o99_116 P,o100_117 P,o101_118 P,o102_119 P,o103_120 P,o104_121 P,o105_122 P,o106_123 P,o107_124 P,o108_125 P,o109_126 P,o110_127 P,o111_128 P,o112_129 P,o113_130 P,o114_131 P,o115_132 P,o116_133 P,o117_134 P,o118_135 P,o119_136 P,o120_137 P,o121_138 P,o122_139 P,o123_140 P]
def S10 (w:aw) (os:au):f7:=mkS (t10 w.params) 124 1872 os
def L10 (w:aw) (os:au):=run_ 450 w (S9 w os) (psT 27 2 z9)
def R10 (w:aw) (os:au):=nx (S10 w os) z10
theorem W10:seenB (L10,R10)=true:=by k_qdec
theorem E10: ∀w os,L10 w os=R10 w os:=eqT te2033520712117167631 te2251194440480584881 fun w os=>by kernel_rfl
def P10 (w:aw):Prop:=PP w 450 S9 (psT 27 2 z9) S10 z10
theorem F10 (w:aw):P10 w:=fun os=>segRun_of (E10 w os)
def eo3_141 (P:ah):List i6:=(eo3_102 P)++[en P qap 1990 (.ref 202)]
def o3_141 (P:ah):Obj:=Td (.dict (eo3_141 P).toArray 34)
def o12_142 (P:ah):Obj:=oN (.fields #[(iZ 1),(iZ 0),(.ref 20),(iZ 20),(iZ 0),(.ref 43),(iZ 22),(iZ 0),(.ref 50),(iZ 24),(iZ 0),(.ref 57),(iZ 26),(iZ 0),(.ref 64),(iZ 32),(iZ 0),(.ref 77),(iZ 70),(iZ 0),(.ref 85),(iZ 103),(iZ 0),(.ref 92),(iZ 110),(iZ 0),(.ref 116),(iZ 112),(iZ 0),(.ref 129)])
def o124_143 (P:ah):Obj:=Ta (.seq #[] 0)
def o125_144 (P:ah):Obj:=Tg (.fields #[(.builtin SL.s10062305145149207511x16),(.type SL.s17162191345867700912x4)])
def o126_145 (P:ah):Obj:=Td (.dict #[en P qbe 1879 (.str qab 1809),en P qcs 1881 (.str qap 1880),en P qbf 1883 (.int (112) 1882),en P qae 1893 (.ref 138),en P qbt 1902 (.ref 145),en P qbu 1914 (.ref 152),en P qbv 1920 (.ref 157),en P qbw 1930 (.ref 164),en P qbx 1937 (.ref 171),en P qby 1944 (.ref 178),en P qbz 1958 (.ref 185),en P qca 1971 (.ref 192),en P qcb 1978 (.ref 199),en P qbg 1983 (.ref 200)] 14)
def o127_146 (P:ah):Obj:=Ta (.seq #[] 0)
def o128_147 (P:ah):Obj:=oN (.fields #[(iZ 114),(iZ 4),(.ref 137),(iZ 123),(iZ 4),(.ref 144),(iZ 128),(iZ 4),(.ref 151),(iZ 137),(iZ 4),(.ref 156),(iZ 145),(iZ 4),(.ref 163),(iZ 156),(iZ 4),(.ref 170),(iZ 161),(iZ 4),(.ref 177),(iZ 164),(iZ 4),(.ref 184),(iZ 187),(iZ 4),(.ref 191),(iZ 216),(iZ 4),(.ref 198)])
def o129_148 (P:ah):Obj:=cA qap qap 1874 112 0 0 127 1877
def o130_149 (P:ah):Obj:=⟨(.type SL.s658472552662922059x5),none, .plain,#[some (.ref 129),some (.ref 3),some (.ref 126),none,some (.str qab 1809),none,some (.ref 0)]⟩
def o131_150 (P:ah):Obj:=Ta (.seq #[.none] 0)
def o132_151 (P:ah):Obj:=Ta (.seq #[] 0)
def o133_152 (P:ah):Obj:=oN (.fields #[])
def o134_153 (P:ah):Obj:=Ta (.seq #[(.str qaf 1887),(.str (sQ 5 0x6870617267) 1888),(.str qac 1889),(.str qdf 1890)] 0)
def o135_154 (P:ah):Obj:=Ta (.seq #[] 0)
def o136_155 (P:ah):Obj:=oN (.func (fdAt (aK 29 0) qae qcu 0 [] .none .none .none .none none .none .none 0))
def o137_156 (P:ah):Obj:=cB qae qcu 1884 114 2 3 132 1891
def o138_157 (P:ah):Obj:=Tc (.func (fdAt (aK 29 0) qae qcu 3 [] (.ref 131) .none .none (.str qab 1809) none (.ref 137) .none 0))
def o139_158 (P:ah):Obj:=Ta (.seq #[] 0)
def o140_159 (P:ah):Obj:=oN (.fields #[])
def o141_160 (P:ah):Obj:=Ta (.seq #[(.str qaf 1897),(.str qac 1898),(.str (sQ 6 0x746c75736572) 1899)] 0)
def o142_161 (P:ah):Obj:=Ta (.seq #[] 0)
def o143_162 (P:ah):Obj:=oN (.func (fdAt (aK 29 1) qbt qcv 0 [] .none .none .none .none none .none .none 0))
def o144_163 (P:ah):Obj:=cB qbt qcv 1894 123 2 3 139 1900
def o145_164 (P:ah):Obj:=Tc (.func (fdAt (aK 29 1) qbt qcv 3 [] .none .none .none (.str qab 1809) none (.ref 144) .none 0))
def o146_165 (P:ah):Obj:=Ta (.seq #[] 0)
def o147_166 (P:ah):Obj:=oN (.fields #[])
def o148_167 (P:ah):Obj:=Ta (.seq #[(.str qaf 1906),(.str qac 1907),(.str qdf 1908),(.str (sQ 8 0x6f666e6965646f6e) 1909),(.str (sQ 4 0x64657270) 1910),(.str (sQ 9 0x6f666e695f64657270) 1911)] 0)
def o149_168 (P:ah):Obj:=Ta (.seq #[] 0)
def o150_169 (P:ah):Obj:=oN (.func (fdAt (aK 29 2) qbu qcw 0 [] .none .none .none .none none .none .none 0))
def o151_170 (P:ah):Obj:=cB qbu qcw 1903 128 2 7 146 1912
def o152_171 (P:ah):Obj:=Tc (.func (fdAt (aK 29 2) qbu qcw 3 [] .none .none .none (.str qab 1809) none (.ref 151) .none 0))
def o153_172 (P:ah):Obj:=Ta (.seq #[] 0)
def o154_173 (P:ah):Obj:=oN (.fields #[])
def o155_174 (P:ah):Obj:=oN (.func (fdAt (aK 29 3) qbv qcx 0 [] .none .none .none .none none .none .none 0))
def o156_175 (P:ah):Obj:=cC qbv qcx 1915 137 1 3 153 1918
def o157_176 (P:ah):Obj:=Tc (.func (fdAt (aK 29 3) qbv qcx 3 [] .none .none .none (.str qab 1809) none (.ref 156) .none 0))
def o158_177 (P:ah):Obj:=Ta (.seq #[] 0)
def o159_178 (P:ah):Obj:=oN (.fields #[])
def o160_179 (P:ah):Obj:=Ta (.seq #[(.str qaf 1924),(.str (sQ 6 0x746c75736572) 1925),(.str (sQ 3 0x69326e) 1926),(.str qac 1927)] 0)
def o161_180 (P:ah):Obj:=Ta (.seq #[] 0)
def o162_181 (P:ah):Obj:=oN (.func (fdAt (aK 29 4) qbw qcy 0 [] .none .none .none .none none .none .none 0))
def o163_182 (P:ah):Obj:=cB qbw qcy 1921 145 1 3 158 1928
def o164_183 (P:ah):Obj:=Tc (.func (fdAt (aK 29 4) qbw qcy 3 [] .none .none .none (.str qab 1809) none (.ref 163) .none 0))
def o165_184 (P:ah):Obj:=Ta (.seq #[] 0)
def o166_185 (P:ah):Obj:=oN (.fields #[])
def o167_186 (P:ah):Obj:=Ta (.seq #[(.str qaf 1934)] 0)
def o168_187 (P:ah):Obj:=Ta (.seq #[] 0)
def o169_188 (P:ah):Obj:=oN (.func (fdAt (aK 29 5) qbx qcz 0 [] .none .none .none .none none .none .none 0))
def o170_189 (P:ah):Obj:=cB qbx qcz 1931 156 1 3 165 1935
def o171_190 (P:ah):Obj:=Tc (.func (fdAt (aK 29 5) qbx qcz 3 [] .none .none .none (.str qab 1809) none (.ref 170) .none 0))
def o172_191 (P:ah):Obj:=Ta (.seq #[] 0)
def o173_192 (P:ah):Obj:=oN (.fields #[])
def o174_193 (P:ah):Obj:=Ta (.seq #[(.str qaf 1941)] 0)
def o175_194 (P:ah):Obj:=Ta (.seq #[] 0)
def o176_195 (P:ah):Obj:=oN (.func (fdAt (aK 29 6) qby qda 0 [] .none .none .none .none none .none .none 0))
def o177_196 (P:ah):Obj:=cB qby qda 1938 161 1 3 172 1942
def o178_197 (P:ah):Obj:=Tc (.func (fdAt (aK 29 6) qby qda 3 [] .none .none .none (.str qab 1809) none (.ref 177) .none 0))
def o179_198 (P:ah):Obj:=Ta (.seq #[] 0)
def o180_199 (P:ah):Obj:=oN (.fields #[])
def o181_200 (P:ah):Obj:=Ta (.seq #[(.str qaf 1948),(.str (sQ 5 0x7365646f6e) 1949),(.str (sQ 3 0x69326e) 1950),(.str qac 1951),(.str (sQ 8 0x6f666e6965646f6e) 1952),(.str (sQ 4 0x74617473) 1953),(.str (sQ 9 0x726f73736563637573) 1954),(.str (sQ 14 0x6f666e695f726f73736563637573) 1955)] 0)
def o182_201 (P:ah):Obj:=Ta (.seq #[] 0)
def o183_202 (P:ah):Obj:=oN (.func (fdAt (aK 29 7) qbz qdb 0 [] .none .none .none .none none .none .none 0))
def o184_203 (P:ah):Obj:=cB qbz qdb 1945 164 1 7 179 1956
def o185_204 (P:ah):Obj:=Tc (.func (fdAt (aK 29 7) qbz qdb 3 [] .none .none .none (.str qab 1809) none (.ref 184) .none 0))
def o186_205 (P:ah):Obj:=Ta (.seq #[] 0)
def o187_206 (P:ah):Obj:=oN (.fields #[])
def o188_207 (P:ah):Obj:=Ta (.seq #[(.str qaf 1962),(.str (sQ 3 0x69326e) 1963),(.str (sQ 5 0x6b63617473) 1964),(.str (sQ 7 0x6b636174737469) 1965),(.str (sQ 4 0x6e656573) 1966),(.str (sQ 11 0x696b636174733265646f6e) 1967),(.str qac 1968)] 0)
def o189_208 (P:ah):Obj:=Ta (.seq #[] 0)
def o190_209 (P:ah):Obj:=oN (.func (fdAt (aK 29 8) qca qdc 0 [] .none .none .none .none none .none .none 0))
def o191_210 (P:ah):Obj:=cB qca qdc 1959 187 1 3 186 1969
def o192_211 (P:ah):Obj:=Tc (.func (fdAt (aK 29 8) qca qdc 3 [] .none .none .none (.str qab 1809) none (.ref 191) .none 0))
def o193_212 (P:ah):Obj:=Ta (.seq #[] 0)
def o194_213 (P:ah):Obj:=oN (.fields #[])
def o195_214 (P:ah):Obj:=Ta (.seq #[(.str qaf 1975)] 0)
def o196_215 (P:ah):Obj:=Ta (.seq #[] 0)
def o197_216 (P:ah):Obj:=oN (.func (fdAt (aK 29 9) qcb qdd 0 [] .none .none .none .none none .none .none 0))
def o198_217 (P:ah):Obj:=cB qcb qdd 1972 216 1 3 193 1976
def o199_218 (P:ah):Obj:=Tc (.func (fdAt (aK 29 9) qcb qdd 3 [] .none .none .none (.str qab 1809) none (.ref 198) .none 0))
def o200_219 (P:ah):Obj:=Ta (.seq #[(.str (sQ 10 0x64656873696e69666e5f) 1979),(.str (sQ 10 0x6f666e693265646f6e5f) 1980),(.str (sQ 11 0x74756f6465737361706e5f) 1981),(.str (sQ 12 0x7365646f6e5f79646165725f) 1982)] 0)
def o201_220 (P:ah):Obj:=Td (.dict #[en P qbe 1879 (.str qab 1809),en P qbf 1883 (.int (112) 1882),en P qae 1893 (.ref 138),en P qbt 1902 (.ref 145),en P qbu 1914 (.ref 152),en P qbv 1920 (.ref 157),en P qbw 1930 (.ref 164),en P qbx 1937 (.ref 171),en P qby 1944 (.ref 178),en P qbz 1958 (.ref 185),en P qca 1971 (.ref 192),en P qcb 1978 (.ref 199),en P qbg 1983 (.ref 200),en P (sQ 8 0x5f5f746369645f5f) 1985 (.ref 203),en P qce 1987 (.ref 204),en P qah 1988 .none] 4)
def o202_221 (P:ah):Obj:=⟨(.type SL.s17162191345867700912x4),none,(.cls ⟨qap,[(.type SL.s2742458400755230247x6)],[(.ref 202),(.type SL.s2742458400755230247x6)],201,qap,true,[],[],false,none,false⟩),#[none,none,some (.str qap 1872),some (.str qap 1880),some (.builtin SL.s11443829558043349243x14),some (.bool true)]⟩
def o203_222 (P:ah):Obj:=To (.fields #[(.str (sQ 8 0x5f5f746369645f5f) 1984),(.ref 202),(.builtin SL.s6511155373996960695x17),(.builtin SL.s12411053484034534018x21)])
def o204_223 (P:ah):Obj:=To (.fields #[(.str qce 1986),(.ref 202),(.builtin SL.s10220274742760427390x26), .none])
def o205_224 (P:ah):Obj:=Tn (.fields #[(.ref 202),(.ref 202),(.ref 202)])
def o206_225 (P:ah):Obj:=Tg (.fields #[(.builtin SL.s4860613602091757760x24),(.ref 202)])
def t11 (P:ah):BT:=insL (((t10 P).set 3 fun _=>o3_141 P).set 12 fun _=>o12_142 P) 124 [o124_143 P,o125_144 P,o126_145 P,o127_146 P,o128_147 P,o129_148 P,o130_149 P,o131_150 P,o132_151 P,o133_152 P,o134_153 P,o135_154 P,o136_155 P,o137_156 P,o138_157 P,o139_158 P,o140_159 P,o141_160 P,o142_161 P,o143_162 P,o144_163 P,o145_164 P,o146_165 P,o147_166 P,o148_167 P,o149_168 P,o150_169 P,o151_170 P,o152_171 P,o153_172 P,o154_173 P,o155_174 P,o156_175 P,o157_176 P,o158_177 P,o159_178 P,o160_179 P,o161_180 P,o162_181 P,o163_182 P,o164_183 P,o165_184 P,o166_185 P,o167_186 P,o168_187 P,o169_188 P,o170_189 P,o171_190 P,o172_191 P,o173_192 P,o174_193 P,o175_194 P,o176_195 P,o177_196 P,o178_197 P,o179_198 P,o180_199 P,o181_200 P,o182_201 P,o183_202 P,o184_203 P,o185_204 P,o186_205 P,o187_206 P,o188_207 P,o189_208 P,o190_209 P,o191_210 P,o192_211 P,o193_212 P,o194_213 P,o195_214 P,o196_215 P,o197_216 P,o198_217 P,o199_218 P,o200_219 P,o201_220 P,o202_221 P,o203_222 P,o204_223 P,o205_224 P,o206_225 P]
def S11 (w:aw) (os:au):f7:=mkS (t11 w.params) 207 1991 os
def L11 (w:aw) (os:au):=run_ 528 w (S10 w os) (psT 29 1 z10)
def R11 (w:aw) (os:au):=nx (S11 w os) z11
theorem W11:seenB (L11,R11)=true:=by k_qdec
theorem E11: ∀w os,L11 w os=R11 w os:=eqT te18243643644278022418 te9596260700960115773 fun w os=>by kernel_rfl
def P11 (w:aw):Prop:=PP w 528 S10 (psT 29 1 z10) S11 z11
theorem F11 (w:aw):P11 w:=fun os=>segRun_of (E11 w os)
def eo3_226 (P:ah):List i6:=(((eo3_141 P)).set 0 (en P qbd 165 (.str qag 2007)))++[en P qau 2006 (.ref 213),en P qav 2014 (.ref 218),en P qaw 2020 (.ref 223),en P qax 2033 (.ref 230),en P qay 2039 (.ref 235),en P qaz 2046 (.ref 242),en P qba 2052 (.ref 247),en P qbb 2062 (.ref 254),en P qbc 2068 (.ref 259)]
def o3_226 (P:ah):Obj:=Td (.dict (eo3_226 P).toArray 43)
def o12_227 (P:ah):Obj:=oN (.fields #[(iZ 1),(iZ 0),(.ref 20),(iZ 20),(iZ 0),(.ref 43),(iZ 22),(iZ 0),(.ref 50),(iZ 24),(iZ 0),(.ref 57),(iZ 26),(iZ 0),(.ref 64),(iZ 32),(iZ 0),(.ref 77),(iZ 70),(iZ 0),(.ref 85),(iZ 103),(iZ 0),(.ref 92),(iZ 110),(iZ 0),(.ref 116),(iZ 112),(iZ 0),(.ref 129),(iZ 219),(iZ 0),(.ref 212),(iZ 252),(iZ 0),(.ref 217),(iZ 256),(iZ 0),(.ref 222),(iZ 258),(iZ 0),(.ref 229),(iZ 275),(iZ 0),(.ref 234),(iZ 285),(iZ 0),(.ref 241),(iZ 289),(iZ 0),(.ref 246),(iZ 303),(iZ 0),(.ref 253),(iZ 309),(iZ 0),(.ref 258)])
def o207_228 (P:ah):Obj:=Ta (.seq #[] 0)
def o208_229 (P:ah):Obj:=oN (.fields #[])
def o209_230 (P:ah):Obj:=Ta (.seq #[(.str (sQ 8 0x6465746365707865) 1996),(.str (sQ 6 0x6c6175746361) 1997),(.str (sQ 1 0x69) 1998),(.str (sQ 1 0x6a) 1999),(.str (sQ 7 0x676e697373696d) 2000),(.str (sQ 10 0x64657463657078656e75) 2001),(.str (sQ 1 0x65) 2002),(.str (sQ 1 0x61) 2003)] 0)
def o210_231 (P:ah):Obj:=Ta (.seq #[] 0)
def o211_232 (P:ah):Obj:=oN (.func (fdAt (aD 31) qau qau 0 [] .none .none .none .none none .none .none 0))
def o212_233 (P:ah):Obj:=cB qau qau 1993 219 2 3 207 2004
def o213_234 (P:ah):Obj:=Tc (.func (fdAt (aD 31) qau qau 3 [] .none .none .none (.str (sQ 20 0x6c6974752e7473657474696e752e333133797063) 1991) none (.ref 212) .none 0))
def o214_235 (P:ah):Obj:=Ta (.seq #[] 0)
def o215_236 (P:ah):Obj:=oN (.fields #[])
def o216_237 (P:ah):Obj:=oN (.func (fdAt (aD 33) qav qav 0 [] .none .none .none .none none .none .none 0))
def o217_238 (P:ah):Obj:=cC qav qav 2009 252 1 3 214 2012
def o218_239 (P:ah):Obj:=Tc (.func (fdAt (aD 33) qav qav 3 [] .none .none .none (.str qag 2007) none (.ref 217) .none 0))
def o219_240 (P:ah):Obj:=Ta (.seq #[] 0)
def o220_241 (P:ah):Obj:=oN (.fields #[])
def o221_242 (P:ah):Obj:=oN (.func (fdAt (aD 34) qaw qaw 0 [] .none .none .none .none none .none .none 0))
def o222_243 (P:ah):Obj:=cC qaw qaw 2015 256 1 3 219 2018
def o223_244 (P:ah):Obj:=Tc (.func (fdAt (aD 34) qaw qaw 3 [] .none .none .none (.str qag 2007) none (.ref 222) .none 0))
def o224_245 (P:ah):Obj:=Ta (.seq #[] 0)
def o225_246 (P:ah):Obj:=oN (.fields #[])
def o226_247 (P:ah):Obj:=Ta (.seq #[(.str (sQ 5 0x7372696170) 2024),(.str (sQ 6 0x726574726f73) 2025),(.str (sQ 1 0x6b) 2026),(.str (sQ 1 0x6a) 2027),(.str (sQ 4 0x676e6972) 2028),(.str (sQ 6 0x73646e756f72) 2029),(.str (sQ 5 0x7964616572) 2030)] 0)
def o227_248 (P:ah):Obj:=Ta (.seq #[] 0)
def o228_249 (P:ah):Obj:=oN (.func (fdAt (aD 35) qax qax 0 [] .none .none .none .none none .none .none 0))
def o229_250 (P:ah):Obj:=cB qax qax 2021 258 1 3 224 2031
def o230_251 (P:ah):Obj:=Tc (.func (fdAt (aD 35) qax qax 3 [] .none .none .none (.str qag 2007) none (.ref 229) .none 0))
def o231_252 (P:ah):Obj:=Ta (.seq #[] 0)
def o232_253 (P:ah):Obj:=oN (.fields #[])
def o233_254 (P:ah):Obj:=oN (.func (fdAt (aD 36) qay qay 0 [] .none .none .none .none none .none .none 0))
def o234_255 (P:ah):Obj:=cC qay qay 2034 275 1 3 231 2037
def o235_256 (P:ah):Obj:=Tc (.func (fdAt (aD 36) qay qay 3 [] .none .none .none (.str qag 2007) none (.ref 234) .none 0))
def o236_257 (P:ah):Obj:=Ta (.seq #[] 0)
def o237_258 (P:ah):Obj:=oN (.fields #[])
def o238_259 (P:ah):Obj:=Ta (.seq #[(.str qcr 2043)] 0)
def o239_260 (P:ah):Obj:=Ta (.seq #[] 0)
def o240_261 (P:ah):Obj:=oN (.func (fdAt (aD 37) qaz qaz 0 [] .none .none .none .none none .none .none 0))
def o241_262 (P:ah):Obj:=cB qaz qaz 2040 285 1 3 236 2044
def o242_263 (P:ah):Obj:=Tc (.func (fdAt (aD 37) qaz qaz 3 [] .none .none .none (.str qag 2007) none (.ref 241) .none 0))
def o243_264 (P:ah):Obj:=Ta (.seq #[] 0)
def o244_265 (P:ah):Obj:=oN (.fields #[])
def o245_266 (P:ah):Obj:=oN (.func (fdAt (aD 38) qba qba 0 [] .none .none .none .none none .none .none 0))
def o246_267 (P:ah):Obj:=cC qba qba 2047 289 2 3 243 2050
def o247_268 (P:ah):Obj:=Tc (.func (fdAt (aD 38) qba qba 3 [] .none .none .none (.str qag 2007) none (.ref 246) .none 0))
def o248_269 (P:ah):Obj:=Ta (.seq #[] 0)
def o249_270 (P:ah):Obj:=oN (.fields #[])
def o250_271 (P:ah):Obj:=Ta (.seq #[(.str (sQ 3 0x656e6f) 2056),(.str (sQ 5 0x726568746f) 2057),(.str (sQ 3 0x776f72) 2058),(.str (sQ 1 0x6b) 2059)] 0)
def o251_272 (P:ah):Obj:=Ta (.seq #[] 0)
def o252_273 (P:ah):Obj:=oN (.func (fdAt (aD 39) qbb qbb 0 [] .none .none .none .none none .none .none 0))
def o253_274 (P:ah):Obj:=cB qbb qbb 2053 303 2 3 248 2060
def o254_275 (P:ah):Obj:=Tc (.func (fdAt (aD 39) qbb qbb 3 [] .none .none .none (.str qag 2007) none (.ref 253) .none 0))
def o255_276 (P:ah):Obj:=Ta (.seq #[] 0)
def o256_277 (P:ah):Obj:=oN (.fields #[])
def o257_278 (P:ah):Obj:=oN (.func (fdAt (aD 40) qbc qbc 0 [] .none .none .none .none none .none .none 0))
def o258_279 (P:ah):Obj:=cC qbc qbc 2063 309 1 3 255 2066
def o259_280 (P:ah):Obj:=Tc (.func (fdAt (aD 40) qbc qbc 3 [] .none .none .none (.str qag 2007) none (.ref 258) .none 0))
def t12 (P:ah):BT:=insL (((t11 P).set 3 fun _=>o3_226 P).set 12 fun _=>o12_227 P) 207 [o207_228 P,o208_229 P,o209_230 P,o210_231 P,o211_232 P,o212_233 P,o213_234 P,o214_235 P,o215_236 P,o216_237 P,o217_238 P,o218_239 P,o219_240 P,o220_241 P,o221_242 P,o222_243 P,o223_244 P,o224_245 P,o225_246 P,o226_247 P,o227_248 P,o228_249 P,o229_250 P,o230_251 P,o231_252 P,o232_253 P,o233_254 P,o234_255 P,o235_256 P,o236_257 P,o237_258 P,o238_259 P,o239_260 P,o240_261 P,o241_262 P,o242_263 P,o243_264 P,o244_265 P,o245_266 P,o246_267 P,o247_268 P,o248_269 P,o249_270 P,o250_271 P,o251_272 P,o252_273 P,o253_274 P,o254_275 P,o255_276 P,o256_277 P,o257_278 P,o258_279 P,o259_280 P]
def S12 (w:aw) (os:au):f7:=mkS (t12 w.params) 260 2069 os
def L12 (w:aw) (os:au):=run_ 281 w (S11 w os) (psT 30 11 z11)
def R12 (w:aw) (os:au):=nx (S12 w os) z12
theorem W12:seenB (L12,R12)=true:=by k_qdec
theorem E12: ∀w os,L12 w os=R12 w os:=eqT te5304278303707585182 te14491306089295436408 fun w os=>by kernel_rfl
def P12 (w:aw):Prop:=PP w 281 S11 (psT 30 11 z11) S12 z12
theorem F12 (w:aw):P12 w:=fun os=>segRun_of (E12 w os)
def hl (P:ah):List Obj:=[o3_226 P,boot_o_4 P,boot_o_5 P,boot_o_6 P,boot_o_7 P,boot_o_8 P,boot_o_9 P,boot_o_10 P,o11_0 P,o12_227 P,o13_2 P,o14_3 P,o15_6 P,o16_7 P,o17_8 P,o18_9 P,o19_10 P,o20_11 P,o21_12 P,o22_13 P,o23_20 P,o24_21 P,o25_24 P,o26_25 P,o27_26 P,o28_28 P,o29_39 P,o30_30 P,o31_42 P,o32_36 P,o33_37 P,o34_38 P,o35_44 P,o36_45 P,o37_46 P,o38_49 P,o39_50 P,o40_51 P,o41_52 P,o42_53 P,o43_54 P,o44_55 P,o45_56 P,o46_57 P,o47_58 P,o48_59 P,o49_60 P,o50_61 P,o51_62 P,o52_63 P,o53_64 P,o54_65 P,o55_66 P,o56_67 P,o57_68 P,o58_69 P,o59_70 P,o60_71 P,o61_72 P,o62_73 P,o63_74 P,o64_75 P,o65_76 P,o66_77 P,o67_80 P,o68_81 P,o69_82 P,o70_83 P,o71_86 P,o72_87 P,o73_88 P,o74_89 P,o75_90 P,o76_91 P,o77_92 P,o78_93 P,o79_94 P,o80_95 P,o81_96 P,o82_97 P,o83_98 P,o84_99 P,o85_100 P,o86_101 P,o87_104 P,o88_105 P,o89_106 P,o90_107 P,o91_108 P,o92_109 P,o93_110 P,o94_111 P,o95_112 P,o96_113 P,o97_114 P,o98_115 P,o99_116 P,o100_117 P,o101_118 P,o102_119 P,o103_120 P,o104_121 P,o105_122 P,o106_123 P,o107_124 P,o108_125 P,o109_126 P,o110_127 P,o111_128 P,o112_129 P,o113_130 P,o114_131 P,o115_132 P,o116_133 P,o117_134 P,o118_135 P,o119_136 P,o120_137 P,o121_138 P,o122_139 P,o123_140 P,o124_143 P,o125_144 P,o126_145 P,o127_146 P,o128_147 P,o129_148 P,o130_149 P,o131_150 P,o132_151 P,o133_152 P,o134_153 P,o135_154 P,o136_155 P,o137_156 P,o138_157 P,o139_158 P,o140_159 P,o141_160 P,o142_161 P,o143_162 P,o144_163 P,o145_164 P,o146_165 P,o147_166 P,o148_167 P,o149_168 P,o150_169 P,o151_170 P,o152_171 P,o153_172 P,o154_173 P,o155_174 P,o156_175 P,o157_176 P,o158_177 P,o159_178 P,o160_179 P,o161_180 P,o162_181 P,o163_182 P,o164_183 P,o165_184 P,o166_185 P,o167_186 P,o168_187 P,o169_188 P,o170_189 P,o171_190 P,o172_191 P,o173_192 P,o174_193 P,o175_194 P,o176_195 P,o177_196 P,o178_197 P,o179_198 P,o180_199 P,o181_200 P,o182_201 P,o183_202 P,o184_203 P,o185_204 P,o186_205 P,o187_206 P,o188_207 P,o189_208 P,o190_209 P,o191_210 P,o192_211 P,o193_212 P,o194_213 P,o195_214 P,o196_215 P,o197_216 P,o198_217 P,o199_218 P,o200_219 P,o201_220 P,o202_221 P,o203_222 P,o204_223 P,o205_224 P,o206_225 P,o207_228 P,o208_229 P,o209_230 P,o210_231 P,o211_232 P,o212_233 P,o213_234 P,o214_235 P,o215_236 P,o216_237 P,o217_238 P,o218_239 P,o219_240 P,o220_241 P,o221_242 P,o222_243 P,o223_244 P,o224_245 P,o225_246 P,o226_247 P,o227_248 P,o228_249 P,o229_250 P,o230_251 P,o231_252 P,o232_253 P,o233_254 P,o234_255 P,o235_256 P,o236_257 P,o237_258 P,o238_259 P,o239_260 P,o240_261 P,o241_262 P,o242_263 P,o243_264 P,o244_265 P,o245_266 P,o246_267 P,o247_268 P,o248_269 P,o249_270 P,o250_271 P,o251_272 P,o252_273 P,o253_274 P,o254_275 P,o255_276 P,o256_277 P,o257_278 P,o258_279 P,o259_280 P]
def heapF (P:ah):Heap:=⟨⟨boot_o_0 P::boot_o_1 P::boot_o_2 P::hl P⟩,lf⟩
def Lfin (w:aw) (os:au):Option az:=topRun treeTable pw w 11 annV 2 (i4 (S12 w os)) ⟨doneF .next,cE,z12,B0⟩
def Rfin (w:aw) (os:au):Option az:=some ⟨heapF w.params,#[],boot_drawn,2069,os⟩
theorem Wfin:seenB (Lfin,Rfin)=true:=by k_qdec
theorem Efin: ∀w os,Lfin w os=Rfin w os:=eqT te7801100315182979696 te11188728468511714841 fun w os=>by kernel_rfl
theorem bd_eq:bd=(sts 0 3++(sts 3 1++(sts 4 8++(sts 12 1++(sts 13 1++(sts 14 1++(sts 15 5++(sts 20 1++(sts 21 6++(sts 27 2++(sts 29 1++(sts 30 11++[])))))))))))):=by kernel_rfl
theorem runA (w:aw) (os:au):topRun treeTable pw w 11 annV (48+(9552+(133+(3087+(25+(4313+(144+(118+(127+(450+(528+(281+2)))))))))))) (i4 (S0 w os)) (restOf bd env0 cE z0 B0)=some ⟨heapF w.params,#[],boot_drawn,2069,os⟩:=by
 rw [bd_eq];exact (piece_app (F1 w os)
 (piece_app (F2 w os)
 (piece_app (F3 w os)
 (piece_app (F4 w os)
 (piece_app (F5 w os)
 (piece_app (F6 w os)
 (piece_app (F7 w os)
 (piece_app (F8 w os)
 (piece_app (F9 w os)
 (piece_app (F10 w os)
 (piece_app (F11 w os)
 (piece_app (F12 w os)
 (piece_nil (Efin w os))))))))))))))
theorem run (w:aw) (os:au):topRun treeTable pw w 11 annV (12+(1+(48+(9552+(133+(3087+(25+(4313+(144+(118+(127+(450+(528+(281+2)))))))))))))) ⟨boot_heap w.params,#[],boot_drawn,boot_toks,os⟩ (topStub pw)=some ⟨heapF w.params,#[],boot_drawn,2069,os⟩:=go_top (Epre w os) (piece_block (Eblk w os) (runA w os))
def kF (P:ah):Frag:=frL 3 (hl P)
end H
end
section
namespace H
theorem boot_pw (w:aw):(importEnds treeTable (opening pw) w 600 (start (opening pw)).1 (start (opening pw)).2).map (fun s=>(s.heap,s.gens,s.drawn,s.toks))=some (boot_heap w.params,Array.mk [],boot_drawn,boot_toks):=by kernel_rfl
theorem open_pw {N:Nat} (hN:Nat.ble 600 N=true) (f: ∀s,fenceModules? pw s=some s):
  ∀w:aw,(fencedOpening treeTable pw w N).map (fun s=>(s.heap,s.gens,s.drawn,s.toks))=some (boot_heap w.params,Array.mk [],boot_drawn,boot_toks):=fun w=>by
 obtain ⟨s,hs,hv⟩:=f4.mp (boot_pw w);have m:=importEnds_mono (N - 600) _ _ _ _ hs;rw [show 600+(N - 600)=N by have:=sf hN;omega] at m;unfold fencedOpening;rw [m];show ((fenceModules? pw s)).map _=_;rw [f s];exact congrArg some hv
end H
end
section
namespace H
def qv:n0:={pw with main:={pw.main with body:=[aD 40]}}
def lo:List Str:=["_wall","CRLF","NL","_QUOPRI_MAP","_QUOPRI_HEADER_MAP","_QUOPRI_BODY_MAP","ascii_lowercase","ascii_uppercase","ascii_letters","digits","hexdigits","header_check","body_check","unquote","quote","_QUOPRI_BODY_ENCODE_MAP","body_encode","decode","_NODE_OUT","_NODE_DONE","_NodeInfo","CycleError","TopologicalSorter","sorted_list_difference","_law_texts","_law_needs","_law_run","_law_told","_law_coded","_law_rows","_law_lacking"]
def kas:List Addr:=(am 257).map (· +3)
def SF (w:aw) (os:au):az:=⟨heapF w.params,#[],boot_drawn,2069,os⟩
def La1:=fun (w:aw) (os:au)=>(staticsOk (importedModules pw.main.body) (boot_heap w.params) (heapF w.params))
def Ra1:=fun (w:aw) (os:au)=>(true)
theorem Wa1:seenB (La1,Ra1)=true:=by k_qdec
theorem Ka1: ∀w os,PySem.W.Fast.tw17853407257291213127 w os=Ra1 w os:=fun w os=>by kernel_rfl
theorem Ea1 (w:aw) (os:au):(staticsOk (importedModules pw.main.body) (boot_heap w.params) (heapF w.params))=(true):=by have h:La1 w os=Ra1 w os:=(congrFun (congrFun PySem.W.Fast.te17853407257291213127 w) os).trans (Ka1 w os);delta La1 Ra1 at h;exact h
def La2:=fun (w:aw) (os:au)=>(namesBound pw (heapF w.params))
def Ra2:=fun (w:aw) (os:au)=>(true)
theorem Wa2:seenB (La2,Ra2)=true:=by k_qdec
theorem Ka2: ∀w os,PySem.W.Fast.tw15848335165557572742 w os=Ra2 w os:=fun w os=>by kernel_rfl
theorem Ea2 (w:aw) (os:au):(namesBound pw (heapF w.params))=(true):=by have h:La2 w os=Ra2 w os:=(congrFun (congrFun PySem.W.Fast.te15848335165557572742 w) os).trans (Ka2 w os);delta La2 Ra2 at h;exact h
def La3:=fun (w:aw) (os:au)=>(gensDone (SF w os))
def Ra3:=fun (w:aw) (os:au)=>(true)
theorem Wa3:seenB (La3,Ra3)=true:=by k_qdec
theorem Ka3: ∀w os,PySem.W.Fast.tw2431889086564189361 w os=Ra3 w os:=fun w os=>by kernel_rfl
theorem Ea3 (w:aw) (os:au):(gensDone (SF w os))=(true):=by have h:La3 w os=Ra3 w os:=(congrFun (congrFun PySem.W.Fast.te2431889086564189361 w) os).trans (Ka3 w os);delta La3 Ra3 at h;exact h
def La4:=fun (w:aw) (os:au)=>(laidKept (boot_heap w.params) (heapF w.params))
def Ra4:=fun (w:aw) (os:au)=>(true)
theorem Wa4:seenB (La4,Ra4)=true:=by k_qdec
theorem Ka4: ∀w os,PySem.W.Fast.tw2077465896077207901 w os=Ra4 w os:=fun w os=>by kernel_rfl
theorem Ea4 (w:aw) (os:au):(laidKept (boot_heap w.params) (heapF w.params))=(true):=by have h:La4 w os=Ra4 w os:=(congrFun (congrFun PySem.W.Fast.te2077465896077207901 w) os).trans (Ka4 w os);delta La4 Ra4 at h;exact h
def Lb1:=fun (w:aw) (os:au)=>(seen ((recsOf qv).map (·.name)) (ownsOf qv) [] (SF w os))
def Rb1:=fun (w:aw) (os:au)=>(expectedOf qv)
theorem Wb1:seenB (Lb1,Rb1)=true:=by k_qdec
theorem Kb1: ∀w os,PySem.W.Fast.tw11171577880432025164 w os=Rb1 w os:=fun w os=>by kernel_rfl
theorem Eb1 (w:aw) (os:au):(seen ((recsOf qv).map (·.name)) (ownsOf qv) [] (SF w os))=(expectedOf qv):=by have h:Lb1 w os=Rb1 w os:=(congrFun (congrFun PySem.W.Fast.te11171577880432025164 w) os).trans (Kb1 w os);delta Lb1 Rb1 at h;exact h
def Lb2:=fun (w:aw) (os:au)=>((heapF w.params).bltView)
def Rb2:=fun (w:aw) (os:au)=>(bltViewBooted)
theorem Wb2:seenB (Lb2,Rb2)=true:=by k_qdec
theorem Kb2: ∀w os,PySem.W.Fast.tw2879346214330616820 w os=Rb2 w os:=fun w os=>by kernel_rfl
theorem Eb2 (w:aw) (os:au):((heapF w.params).bltView)=(bltViewBooted):=by have h:Lb2 w os=Rb2 w os:=(congrFun (congrFun PySem.W.Fast.te2879346214330616820 w) os).trans (Kb2 w os);delta Lb2 Rb2 at h;exact h
def Lb3:=fun (w:aw) (os:au)=>(((heapF w.params).keysOk (looseW qv lo) ((recsOf qv).map (·.name)) ((litsOf qv).map (·.1)) ((clssOf qv (looseW qv lo)).map (·.name))&&(heapF w.params).accountedOkI (importedModules pw.main.body)&&(heapF w.params).isNs ca&&(heapF w.params).isNs builtinsNs&&tablesOk qv (heapF w.params)&&true&&(if true then (SF w os).gens.size==0 else !leftWithCleanup (SF w os).gens)))
def Rb3:=fun (w:aw) (os:au)=>(true)
theorem Wb3:seenB (Lb3,Rb3)=true:=by k_qdec
theorem Kb3: ∀w os,PySem.W.Fast.tw16576617812008392648 w os=Rb3 w os:=fun w os=>by kernel_rfl
theorem Eb3 (w:aw) (os:au):(((heapF w.params).keysOk (looseW qv lo) ((recsOf qv).map (·.name)) ((litsOf qv).map (·.1)) ((clssOf qv (looseW qv lo)).map (·.name))&&(heapF w.params).accountedOkI (importedModules pw.main.body)&&(heapF w.params).isNs ca&&(heapF w.params).isNs builtinsNs&&tablesOk qv (heapF w.params)&&true&&(if true then (SF w os).gens.size==0 else !leftWithCleanup (SF w os).gens)))=(true):=by have h:Lb3 w os=Rb3 w os:=(congrFun (congrFun PySem.W.Fast.te16576617812008392648 w) os).trans (Kb3 w os);delta Lb3 Rb3 at h;exact h
def Lb4:=fun (w:aw) (os:au)=>(tabsOk qv (SF w os))
def Rb4:=fun (w:aw) (os:au)=>(true)
theorem Wb4:seenB (Lb4,Rb4)=true:=by k_qdec
theorem Kb4: ∀w os,PySem.W.Fast.tw2249278470968690996 w os=Rb4 w os:=fun w os=>by kernel_rfl
theorem Eb4 (w:aw) (os:au):(tabsOk qv (SF w os))=(true):=by have h:Lb4 w os=Rb4 w os:=(congrFun (congrFun PySem.W.Fast.te2249278470968690996 w) os).trans (Kb4 w os);delta Lb4 Rb4 at h;exact h
def Lb5:=fun (w:aw) (os:au)=>(pinSeenD qv (drecsOf qv) (SF w os))
def Rb5:=fun (w:aw) (os:au)=>(pinGoodD (drecsOf qv))
theorem Wb5:seenB (Lb5,Rb5)=true:=by k_qdec
theorem Kb5: ∀w os,PySem.W.Fast.tw5124768641544692418 w os=PySem.W.Fast.tw10919807424037735073 w os:=fun w os=>by kernel_rfl
theorem Eb5 (w:aw) (os:au):(pinSeenD qv (drecsOf qv) (SF w os))=(pinGoodD (drecsOf qv)):=by have h:Lb5 w os=Rb5 w os:=((congrFun (congrFun PySem.W.Fast.te5124768641544692418 w) os).trans (Kb5 w os)).trans (congrFun (congrFun PySem.W.Fast.te10919807424037735073 w) os).symm;delta Lb5 Rb5 at h;exact h
def Lb6:=fun (w:aw) (os:au)=>(plainSeenE qv (looseW qv lo) (SF w os))
def Rb6:=fun (w:aw) (os:au)=>(plainGoodE qv (looseW qv lo))
theorem Wb6:seenB (Lb6,Rb6)=true:=by k_qdec
theorem Kb6: ∀w os,PySem.W.Fast.tw3574754921442915029 w os=PySem.W.Fast.tw6918960446997802896 w os:=fun w os=>by kernel_rfl
theorem Eb6 (w:aw) (os:au):(plainSeenE qv (looseW qv lo) (SF w os))=(plainGoodE qv (looseW qv lo)):=by have h:Lb6 w os=Rb6 w os:=((congrFun (congrFun PySem.W.Fast.te3574754921442915029 w) os).trans (Kb6 w os)).trans (congrFun (congrFun PySem.W.Fast.te6918960446997802896 w) os).symm;delta Lb6 Rb6 at h;exact h
def Lb7:=fun (w:aw) (os:au)=>(plainSeenD qv lo (SF w os))
def Rb7:=fun (w:aw) (os:au)=>(plainGoodD qv lo)
theorem Wb7:seenB (Lb7,Rb7)=true:=by k_qdec
theorem Kb7: ∀w os,PySem.W.Fast.tw4987353120303308238 w os=PySem.W.Fast.tw14846799762014950975 w os:=fun w os=>by kernel_rfl
theorem Eb7 (w:aw) (os:au):(plainSeenD qv lo (SF w os))=(plainGoodD qv lo):=by have h:Lb7 w os=Rb7 w os:=((congrFun (congrFun PySem.W.Fast.te4987353120303308238 w) os).trans (Kb7 w os)).trans (congrFun (congrFun PySem.W.Fast.te14846799762014950975 w) os).symm;delta Lb7 Rb7 at h;exact h
def Lb8:=fun (w:aw) (os:au)=>(wideSeen qv (SF w os))
def Rb8:=fun (w:aw) (os:au)=>(wideGood qv)
theorem Wb8:seenB (Lb8,Rb8)=true:=by k_qdec
theorem Kb8: ∀w os,PySem.W.Fast.tw14456395317187756917 w os=Rb8 w os:=fun w os=>by kernel_rfl
theorem Eb8 (w:aw) (os:au):(wideSeen qv (SF w os))=(wideGood qv):=by have h:Lb8 w os=Rb8 w os:=(congrFun (congrFun PySem.W.Fast.te14456395317187756917 w) os).trans (Kb8 w os);delta Lb8 Rb8 at h;exact h
def Lb9:=fun (w:aw) (os:au)=>(clsSeenW qv lo (SF w os))
def Rb9:=fun (w:aw) (os:au)=>(clsGoodW qv lo)
theorem Wb9:seenB (Lb9,Rb9)=true:=by k_qdec
theorem Kb9: ∀w os,PySem.W.Fast.tw15788577283929698287 w os=PySem.W.Fast.tw15955145559438193007 w os:=fun w os=>by kernel_rfl
theorem Eb9 (w:aw) (os:au):(clsSeenW qv lo (SF w os))=(clsGoodW qv lo):=by have h:Lb9 w os=Rb9 w os:=((congrFun (congrFun PySem.W.Fast.te15788577283929698287 w) os).trans (Kb9 w os)).trans (congrFun (congrFun PySem.W.Fast.te15955145559438193007 w) os).symm;delta Lb9 Rb9 at h;exact h
def Lc1:=fun (w:aw) (os:au)=>(kas.map (heapF w.params).get?)
def Rc1:=fun (w:aw) (os:au)=>((kF w.params).map fun p=>some p.2)
theorem Wc1:seenB (Lc1,Rc1)=true:=by k_qdec
theorem Kc1: ∀w os,PySem.W.Fast.tw3419022488515426243 w os=PySem.W.Fast.tw6312819822482284766 w os:=fun w os=>by kernel_rfl
theorem Ec1 (w:aw) (os:au):(kas.map (heapF w.params).get?)=((kF w.params).map fun p=>some p.2):=by have h:Lc1 w os=Rc1 w os:=((congrFun (congrFun PySem.W.Fast.te3419022488515426243 w) os).trans (Kc1 w os)).trans (congrFun (congrFun PySem.W.Fast.te6312819822482284766 w) os).symm;delta Lc1 Rc1 at h;exact h
def Ld1:=fun (w:aw) (os:au)=>((boot_heap w.params).isNs ca&&(#[]:Array GenState).size==0)
def Rd1:=fun (w:aw) (os:au)=>(true)
theorem Ed1 (w:aw) (os:au):((boot_heap w.params).isNs ca&&(#[]:Array GenState).size==0)=(true):=by kernel_rfl
def Ld2:=fun (w:aw) (os:au)=>((boot_heap w.params).objs.size)
def Rd2:=fun (w:aw) (os:au)=>(11)
theorem Ed2 (w:aw) (os:au):((boot_heap w.params).objs.size)=(11):=by kernel_rfl
def Ld3:=fun (w:aw) (os:au)=>((boot_heap w.params).nsMap ca "__annotations__")
def Rd3:=fun (w:aw) (os:au)=>(annV)
theorem Wd3:seenB (Ld3,Rd3)=true:=by k_qdec
theorem Kd3: ∀w os,PySem.W.Fast.tw9494242153712688816 w os=Rd3 w os:=fun w os=>by kernel_rfl
theorem Ed3 (w:aw) (os:au):((boot_heap w.params).nsMap ca "__annotations__")=(annV):=by have h:Ld3 w os=Rd3 w os:=(congrFun (congrFun PySem.W.Fast.te9494242153712688816 w) os).trans (Kd3 w os);delta Ld3 Rd3 at h;exact h
end H
end
section
namespace H
section
variable (P:ah) (L:Frag)
theorem top_list {K:Frag} {a:Addr} {f:Nat→Str} (dd:Option Addr) (l:List ak) (n:Nat) (sl:Array (Option ak)) (h:K.lookup a=some ⟨.type "list",dd, .seq l.toArray n,sl⟩) (hl:l.length=256) (h2:((am 256).all fun k=>match l[k]? with|some (.str s _)=>s==f k|_=>false)=true):dZ K a f:=by
 refine ⟨dd,l,n,sl,h,hl,fun k hk=>?_⟩;have:=f9.mp h2 k (bj.mpr hk);split at this
 ·rename_i s t e;exact ⟨t,by rw [e,eq_of_beq this]⟩
 ·cases this
theorem kf_header_check:fB (kF P++L) "header_check" (.ref 44)∧fy (kF P++L) (.ref 44)=true∧bK (kF P++L) 44 15 .none:=⟨(by kernel_rfl:nsIn (kF P++L) ca "header_check"=some (some (.ref 44))),by kernel_rfl,⟨.type "function",none,#[],(sN [104,101,97,100,101,114,95,99,104,101,99,107]),(sN [104,101,97,100,101,114,95,99,104,101,99,107]), .none, .none,(.str (sN [99,112,121,51,49,51,46,101,109,97,105,108,46,113,117,111,112,114,105,109,105,109,101]) 1241),none,(.ref 43), .none,by kernel_rfl,by kernel_rfl⟩⟩
theorem kf_body_check:fB (kF P++L) "body_check" (.ref 51)∧fy (kF P++L) (.ref 51)=true∧bK (kF P++L) 51 16 .none:=⟨(by kernel_rfl:nsIn (kF P++L) ca "body_check"=some (some (.ref 51))),by kernel_rfl,⟨.type "function",none,#[],(sN [98,111,100,121,95,99,104,101,99,107]),(sN [98,111,100,121,95,99,104,101,99,107]), .none, .none,(.str (sN [99,112,121,51,49,51,46,101,109,97,105,108,46,113,117,111,112,114,105,109,105,109,101]) 1241),none,(.ref 50), .none,by kernel_rfl,by kernel_rfl⟩⟩
theorem kf_unquote:fB (kF P++L) "unquote" (.ref 58)∧fy (kF P++L) (.ref 58)=true∧bK (kF P++L) 58 17 .none:=⟨(by kernel_rfl:nsIn (kF P++L) ca "unquote"=some (some (.ref 58))),by kernel_rfl,⟨.type "function",none,#[],(sN [117,110,113,117,111,116,101]),(sN [117,110,113,117,111,116,101]), .none, .none,(.str (sN [99,112,121,51,49,51,46,101,109,97,105,108,46,113,117,111,112,114,105,109,105,109,101]) 1241),none,(.ref 57), .none,by kernel_rfl,by kernel_rfl⟩⟩
theorem kf_quote:fB (kF P++L) "quote" (.ref 65)∧fy (kF P++L) (.ref 65)=true∧bK (kF P++L) 65 18 .none:=⟨(by kernel_rfl:nsIn (kF P++L) ca "quote"=some (some (.ref 65))),by kernel_rfl,⟨.type "function",none,#[],(sN [113,117,111,116,101]),(sN [113,117,111,116,101]), .none, .none,(.str (sN [99,112,121,51,49,51,46,101,109,97,105,108,46,113,117,111,112,114,105,109,105,109,101]) 1241),none,(.ref 64), .none,by kernel_rfl,by kernel_rfl⟩⟩
theorem kf_body_encode:fB (kF P++L) "body_encode" (.ref 78)∧fy (kF P++L) (.ref 78)=true∧bK (kF P++L) 78 22 (.ref 71):=⟨(by kernel_rfl:nsIn (kF P++L) ca "body_encode"=some (some (.ref 78))),by kernel_rfl,⟨.type "function",none,#[],(sN [98,111,100,121,95,101,110,99,111,100,101]),(sN [98,111,100,121,95,101,110,99,111,100,101]), .none, .none,(.str (sN [99,112,121,51,49,51,46,101,109,97,105,108,46,113,117,111,112,114,105,109,105,109,101]) 1241),none,(.ref 77), .none,by kernel_rfl,by kernel_rfl⟩⟩
theorem kf_decode:fB (kF P++L) "decode" (.ref 86)∧fy (kF P++L) (.ref 86)=true∧bK (kF P++L) 86 23 (.ref 79):=⟨(by kernel_rfl:nsIn (kF P++L) ca "decode"=some (some (.ref 86))),by kernel_rfl,⟨.type "function",none,#[],(sN [100,101,99,111,100,101]),(sN [100,101,99,111,100,101]), .none, .none,(.str (sN [99,112,121,51,49,51,46,101,109,97,105,108,46,113,117,111,112,114,105,109,105,109,101]) 1241),none,(.ref 85), .none,by kernel_rfl,by kernel_rfl⟩⟩
theorem kf_sorted_list_difference:fB (kF P++L) "sorted_list_difference" (.ref 213)∧fy (kF P++L) (.ref 213)=true∧bK (kF P++L) 213 31 .none:=⟨(by kernel_rfl:nsIn (kF P++L) ca "sorted_list_difference"=some (some (.ref 213))),by kernel_rfl,⟨.type "function",none,#[],(sN [115,111,114,116,101,100,95,108,105,115,116,95,100,105,102,102,101,114,101,110,99,101]),(sN [115,111,114,116,101,100,95,108,105,115,116,95,100,105,102,102,101,114,101,110,99,101]), .none, .none,(.str (sN [99,112,121,51,49,51,46,117,110,105,116,116,101,115,116,46,117,116,105,108]) 1991),none,(.ref 212), .none,by kernel_rfl,by kernel_rfl⟩⟩
theorem kf_law_texts:fB (kF P++L) "_law_texts" (.ref 218)∧fy (kF P++L) (.ref 218)=true∧bK (kF P++L) 218 33 .none:=⟨(by kernel_rfl:nsIn (kF P++L) ca "_law_texts"=some (some (.ref 218))),by kernel_rfl,⟨.type "function",none,#[],(sN [95,108,97,119,95,116,101,120,116,115]),(sN [95,108,97,119,95,116,101,120,116,115]), .none, .none,(.str (sN [108,97,119,95,111,121,48,52,50,57,95,48,49]) 2007),none,(.ref 217), .none,by kernel_rfl,by kernel_rfl⟩⟩
theorem kf_law_needs:fB (kF P++L) "_law_needs" (.ref 223)∧fy (kF P++L) (.ref 223)=true∧bK (kF P++L) 223 34 .none:=⟨(by kernel_rfl:nsIn (kF P++L) ca "_law_needs"=some (some (.ref 223))),by kernel_rfl,⟨.type "function",none,#[],(sN [95,108,97,119,95,110,101,101,100,115]),(sN [95,108,97,119,95,110,101,101,100,115]), .none, .none,(.str (sN [108,97,119,95,111,121,48,52,50,57,95,48,49]) 2007),none,(.ref 222), .none,by kernel_rfl,by kernel_rfl⟩⟩
theorem kf_law_run:fB (kF P++L) "_law_run" (.ref 230)∧fy (kF P++L) (.ref 230)=true∧bK (kF P++L) 230 35 .none:=⟨(by kernel_rfl:nsIn (kF P++L) ca "_law_run"=some (some (.ref 230))),by kernel_rfl,⟨.type "function",none,#[],(sN [95,108,97,119,95,114,117,110]),(sN [95,108,97,119,95,114,117,110]), .none, .none,(.str (sN [108,97,119,95,111,121,48,52,50,57,95,48,49]) 2007),none,(.ref 229), .none,by kernel_rfl,by kernel_rfl⟩⟩
theorem kf_law_told:fB (kF P++L) "_law_told" (.ref 235)∧fy (kF P++L) (.ref 235)=true∧bK (kF P++L) 235 36 .none:=⟨(by kernel_rfl:nsIn (kF P++L) ca "_law_told"=some (some (.ref 235))),by kernel_rfl,⟨.type "function",none,#[],(sN [95,108,97,119,95,116,111,108,100]),(sN [95,108,97,119,95,116,111,108,100]), .none, .none,(.str (sN [108,97,119,95,111,121,48,52,50,57,95,48,49]) 2007),none,(.ref 234), .none,by kernel_rfl,by kernel_rfl⟩⟩
theorem kf_law_coded:fB (kF P++L) "_law_coded" (.ref 242)∧fy (kF P++L) (.ref 242)=true∧bK (kF P++L) 242 37 .none:=⟨(by kernel_rfl:nsIn (kF P++L) ca "_law_coded"=some (some (.ref 242))),by kernel_rfl,⟨.type "function",none,#[],(sN [95,108,97,119,95,99,111,100,101,100]),(sN [95,108,97,119,95,99,111,100,101,100]), .none, .none,(.str (sN [108,97,119,95,111,121,48,52,50,57,95,48,49]) 2007),none,(.ref 241), .none,by kernel_rfl,by kernel_rfl⟩⟩
theorem kf_law_rows:fB (kF P++L) "_law_rows" (.ref 247)∧fy (kF P++L) (.ref 247)=true∧bK (kF P++L) 247 38 .none:=⟨(by kernel_rfl:nsIn (kF P++L) ca "_law_rows"=some (some (.ref 247))),by kernel_rfl,⟨.type "function",none,#[],(sN [95,108,97,119,95,114,111,119,115]),(sN [95,108,97,119,95,114,111,119,115]), .none, .none,(.str (sN [108,97,119,95,111,121,48,52,50,57,95,48,49]) 2007),none,(.ref 246), .none,by kernel_rfl,by kernel_rfl⟩⟩
theorem kf_law_lacking:fB (kF P++L) "_law_lacking" (.ref 254)∧fy (kF P++L) (.ref 254)=true∧bK (kF P++L) 254 39 .none:=⟨(by kernel_rfl:nsIn (kF P++L) ca "_law_lacking"=some (some (.ref 254))),by kernel_rfl,⟨.type "function",none,#[],(sN [95,108,97,119,95,108,97,99,107,105,110,103]),(sN [95,108,97,119,95,108,97,99,107,105,110,103]), .none, .none,(.str (sN [108,97,119,95,111,121,48,52,50,57,95,48,49]) 2007),none,(.ref 253), .none,by kernel_rfl,by kernel_rfl⟩⟩
theorem kf_law:fB (kF P++L) "law" (.ref 259)∧fy (kF P++L) (.ref 259)=true∧bK (kF P++L) 259 40 .none:=⟨(by kernel_rfl:nsIn (kF P++L) ca "law"=some (some (.ref 259))),by kernel_rfl,⟨.type "function",none,#[],(sN [108,97,119]),(sN [108,97,119]), .none, .none,(.str (sN [108,97,119,95,111,121,48,52,50,57,95,48,49]) 2007),none,(.ref 258), .none,by kernel_rfl,by kernel_rfl⟩⟩
theorem kc_NodeInfo:fB (kF P++L) "_NodeInfo" (.ref 105)∧fy (kF P++L) (.ref 105)=true:=⟨(by kernel_rfl:nsIn (kF P++L) ca "_NodeInfo"=some (some (.ref 105))),by kernel_rfl⟩
theorem kcTopologicalSorter:fB (kF P++L) "TopologicalSorter" (.ref 202)∧fy (kF P++L) (.ref 202)=true:=⟨(by kernel_rfl:nsIn (kF P++L) ca "TopologicalSorter"=some (some (.ref 202))),by kernel_rfl⟩
theorem kl_QUOPRI_MAP:fB (kF P++L) "_QUOPRI_MAP" (.ref 24)∧dZ (kF P++L) 24 tH:=⟨(by kernel_rfl:nsIn (kF P++L) ca "_QUOPRI_MAP"=some (some (.ref 24))),top_list none lo24_21 256 #[] (by kernel_rfl) (by kernel_rfl) (by kernel_rfl)⟩
theorem kl_QUOPRI_HEADER_MAP:fB (kF P++L) "_QUOPRI_HEADER_MAP" (.ref 29)∧dZ (kF P++L) 29 lI:=⟨(by kernel_rfl:nsIn (kF P++L) ca "_QUOPRI_HEADER_MAP"=some (some (.ref 29))),top_list none lo29_39 0 #[] (by kernel_rfl) (by kernel_rfl) (by kernel_rfl)⟩
theorem kl_QUOPRI_BODY_MAP:fB (kF P++L) "_QUOPRI_BODY_MAP" (.ref 31)∧dZ (kF P++L) 31 cW:=⟨(by kernel_rfl:nsIn (kF P++L) ca "_QUOPRI_BODY_MAP"=some (some (.ref 31))),top_list none lo31_42 0 #[] (by kernel_rfl) (by kernel_rfl) (by kernel_rfl)⟩
theorem kl_QUOPRI_BODY_ENCODE_MAP:fB (kF P++L) "_QUOPRI_BODY_ENCODE_MAP" (.ref 67)∧dZ (kF P++L) 67 aG:=⟨(by kernel_rfl:nsIn (kF P++L) ca "_QUOPRI_BODY_ENCODE_MAP"=some (some (.ref 67))),top_list none lo67_80 0 #[] (by kernel_rfl) (by kernel_rfl) (by kernel_rfl)⟩
theorem kt_hexdigits: ∃t,fB (kF P++L) "hexdigits" (.str "0123456789abcdefABCDEF" t):=⟨1239,(by kernel_rfl:nsIn (kF P++L) ca "hexdigits"=some (some (.str "0123456789abcdefABCDEF" 1239)))⟩
theorem kt_crlf: ∃t,fB (kF P++L) "CRLF" (.str "\r\n" t):=⟨194,(by kernel_rfl:nsIn (kF P++L) ca "CRLF"=some (some (.str "\r\n" 194)))⟩
theorem kt_out: ∃t,fB (kF P++L) "_NODE_OUT" (.int (-1) t):=⟨1812,(by kernel_rfl:nsIn (kF P++L) ca "_NODE_OUT"=some (some (.int (-1) 1812)))⟩
theorem kt_done: ∃t,fB (kF P++L) "_NODE_DONE" (.int (-2) t):=⟨1815,(by kernel_rfl:nsIn (kF P++L) ca "_NODE_DONE"=some (some (.int (-2) 1815)))⟩
theorem kd71:rL (kF P++L) 71 fun t u=>#[.int 76 t, .str "\n" u]:=⟨.type "tuple",none,0,#[],1776,196,by kernel_rfl⟩
theorem kd79:rL (kF P++L) 79 fun _ u=>#[.str "\n" u]:=⟨.type "tuple",none,0,#[],0,196,by kernel_rfl⟩
theorem kn:Kn (kF P++L):=⟨fc (by kernel_rfl) (fc (by kernel_rfl) (fc (by kernel_rfl) (fc (by kernel_rfl) (fc (by kernel_rfl) (fc (by kernel_rfl) (fc (by kernel_rfl) (fc (by kernel_rfl) (fc (by kernel_rfl) (fc (by kernel_rfl) (fc (by kernel_rfl) (fc (by kernel_rfl) (fc (by kernel_rfl) (fc (by kernel_rfl) (fc (by kernel_rfl) (fun _ h=>by cases h))))))))))))))),
 kf_header_check P L,kf_body_check P L,kf_unquote P L,kf_quote P L,kf_body_encode P L,kf_decode P L,kf_sorted_list_difference P L,kf_law_texts P L,kf_law_needs P L,kf_law_run P L,kf_law_told P L,kf_law_coded P L,kf_law_rows P L,kf_law_lacking P L,kf_law P L,kc_NodeInfo P L,kcTopologicalSorter P L,kl_QUOPRI_MAP P L,kl_QUOPRI_HEADER_MAP P L,kl_QUOPRI_BODY_MAP P L,kl_QUOPRI_BODY_ENCODE_MAP P L,kt_hexdigits P L,kt_crlf P L,kt_out P L,kt_done P L,kd71 P L,kd79 P L⟩
theorem knC:KnC (kF P++L):=⟨⟨by kernel_rfl,by kernel_rfl,by kernel_rfl,by kernel_rfl,by kernel_rfl⟩,⟨by kernel_rfl,by kernel_rfl,by kernel_rfl,by kernel_rfl,by kernel_rfl⟩,by kernel_rfl,by kernel_rfl,⟨by kernel_rfl,by kernel_rfl,⟨.type "function",none,#[],(sN [95,95,105,110,105,116,95,95]),(sN [84,111,112,111,108,111,103,105,99,97,108,83,111,114,116,101,114,46,95,95,105,110,105,116,95,95]), .none, .none,(.str (sN [99,112,121,51,49,51,46,103,114,97,112,104,108,105,98]) 1809),none,(.ref 137), .none,by kernel_rfl,by kernel_rfl⟩⟩,⟨by kernel_rfl,by kernel_rfl,⟨.type "function",none,#[],(sN [95,95,105,110,105,116,95,95]),(sN [95,78,111,100,101,73,110,102,111,46,95,95,105,110,105,116,95,95]), .none, .none,(.str (sN [99,112,121,51,49,51,46,103,114,97,112,104,108,105,98]) 1809),none,(.ref 100), .none,by kernel_rfl,by kernel_rfl⟩⟩,⟨.type "tuple",none,0,#[],0,0,by kernel_rfl⟩,fun x hx=>by
 simp only [ar,dv,or_false] at hx;rcases hx with rfl|rfl|rfl|rfl<;>kernel_rfl,
 ⟨by kernel_rfl,by kernel_rfl,by kernel_rfl,⟨.type "function",none,#[],(sN [95,103,101,116,95,110,111,100,101,105,110,102,111]),(sN [84,111,112,111,108,111,103,105,99,97,108,83,111,114,116,101,114,46,95,103,101,116,95,110,111,100,101,105,110,102,111]), .none, .none,(.str (sN [99,112,121,51,49,51,46,103,114,97,112,104,108,105,98]) 1809),none,(.ref 144), .none,by kernel_rfl,by kernel_rfl⟩⟩,⟨by kernel_rfl,by kernel_rfl,by kernel_rfl,⟨.type "function",none,#[],(sN [97,100,100]),(sN [84,111,112,111,108,111,103,105,99,97,108,83,111,114,116,101,114,46,97,100,100]), .none, .none,(.str (sN [99,112,121,51,49,51,46,103,114,97,112,104,108,105,98]) 1809),none,(.ref 151), .none,by kernel_rfl,by kernel_rfl⟩⟩,⟨by kernel_rfl,by kernel_rfl,by kernel_rfl,⟨.type "function",none,#[],(sN [112,114,101,112,97,114,101]),(sN [84,111,112,111,108,111,103,105,99,97,108,83,111,114,116,101,114,46,112,114,101,112,97,114,101]), .none, .none,(.str (sN [99,112,121,51,49,51,46,103,114,97,112,104,108,105,98]) 1809),none,(.ref 156), .none,by kernel_rfl,by kernel_rfl⟩⟩,⟨by kernel_rfl,by kernel_rfl,by kernel_rfl,⟨.type "function",none,#[],(sN [103,101,116,95,114,101,97,100,121]),(sN [84,111,112,111,108,111,103,105,99,97,108,83,111,114,116,101,114,46,103,101,116,95,114,101,97,100,121]), .none, .none,(.str (sN [99,112,121,51,49,51,46,103,114,97,112,104,108,105,98]) 1809),none,(.ref 163), .none,by kernel_rfl,by kernel_rfl⟩⟩,⟨by kernel_rfl,by kernel_rfl,by kernel_rfl,⟨.type "function",none,#[],(sN [105,115,95,97,99,116,105,118,101]),(sN [84,111,112,111,108,111,103,105,99,97,108,83,111,114,116,101,114,46,105,115,95,97,99,116,105,118,101]), .none, .none,(.str (sN [99,112,121,51,49,51,46,103,114,97,112,104,108,105,98]) 1809),none,(.ref 170), .none,by kernel_rfl,by kernel_rfl⟩⟩,⟨by kernel_rfl,by kernel_rfl,by kernel_rfl,⟨.type "function",none,#[],(sN [100,111,110,101]),(sN [84,111,112,111,108,111,103,105,99,97,108,83,111,114,116,101,114,46,100,111,110,101]), .none, .none,(.str (sN [99,112,121,51,49,51,46,103,114,97,112,104,108,105,98]) 1809),none,(.ref 184), .none,by kernel_rfl,by kernel_rfl⟩⟩,⟨by kernel_rfl,by kernel_rfl,by kernel_rfl,⟨.type "function",none,#[],(sN [95,102,105,110,100,95,99,121,99,108,101]),(sN [84,111,112,111,108,111,103,105,99,97,108,83,111,114,116,101,114,46,95,102,105,110,100,95,99,121,99,108,101]), .none, .none,(.str (sN [99,112,121,51,49,51,46,103,114,97,112,104,108,105,98]) 1809),none,(.ref 191), .none,by kernel_rfl,by kernel_rfl⟩⟩,⟨by kernel_rfl,by kernel_rfl,by kernel_rfl,by kernel_rfl,by kernel_rfl⟩,⟨by kernel_rfl,by kernel_rfl,by kernel_rfl,by kernel_rfl,by kernel_rfl⟩,⟨by kernel_rfl,by kernel_rfl,by kernel_rfl,by kernel_rfl,by kernel_rfl⟩⟩
theorem cyc:uZ (kF P++L):=by refine ⟨⟨(sN [67,121,99,108,101,69,114,114,111,114]),(sN [67,121,99,108,101,69,114,114,111,114]),119,[(.type "ValueError")],true,[],[],false,none,none,some (.ref 111),none,some (.str (sN [67,121,99,108,101,69,114,114,111,114]) 1854),some (.str (sN [67,121,99,108,101,69,114,114,111,114]) 1862),some (.bool true),o119_136 P,#[en P (sN [95,95,109,111,100,117,108,101,95,95]) 1861 (.str (sN [99,112,121,51,49,51,46,103,114,97,112,104,108,105,98]) 1809),en P (sN [95,95,102,105,114,115,116,108,105,110,101,110,111,95,95]) 1865 (.int (110) 1864),en P (sN [95,95,115,116,97,116,105,99,95,97,116,116,114,105,98,117,116,101,115,95,95]) 1866 (.ref 118),en P (sN [95,95,119,101,97,107,114,101,102,95,95]) 1868 (.ref 121),en P (sN [95,95,100,111,99,95,95]) 1869 .none],3,by kernel_rfl,by kernel_rfl,by kernel_rfl,fun e he=>?_,by kernel_rfl⟩,(by kernel_rfl:nsIn (kF P++L) ca "CycleError"=some (some (.ref 120)))⟩;simp only [List.mem_toArray,ar,dv,or_false] at he;rcases he with rfl|rfl|rfl|rfl|rfl<;>exact ⟨_,_,rfl⟩
end
end H
end
section
namespace H
def obsF (s:az):List (Option Obj):=kas.map s.heap.get?
def valF (w:aw):List (Option Obj):=(kF w.params).map fun p=>some p.2
theorem seen_ok (w:aw) (os:au):openSeen qv lo (importedModules pw.main.body) (fun _=>true) true (SF w os)=openGood qv lo:=
 looks_pair (Eb1 w os) (looks_pair (Eb2 w os) (looks_pair (Eb3 w os) (looks_pair (Eb4 w os) (looks_pair (Eb5 w os) (looks_pair (Eb6 w os) (looks_pair (Eb7 w os) (looks_pair (Eb8 w os) (Eb9 w os))))))))
theorem all4 {a b c d:Bool} (ha:a=true) (hb:b=true) (hc:c=true) (hd:d=true):(a&&b&&c&&d)=true:=by rw [ha,hb,hc,hd];rfl
theorem left:LeftO pw qv lo (fun _=>true) obsF valF 40000:=
 LeftO.of_pieces (open_pw (by kernel_rfl) fun s=>by rfl) (fun w=>looks_pair (Ed1 w default) (looks_pair (Ed2 w default) (Ed3 w default)))
  run (by kernel_rfl) fun w=>funext fun os=>looks_pair (all4 (Ea1 w os) (Ea2 w os) (Ea3 w os) (Ea4 w os)) (looks_pair (seen_ok w os) (Ec1 w os))
theorem kas_ok (P:ah):kas=(kF P).map (·.1):=by kernel_rfl
theorem items_int {R:WRecords}: ∀{xs:List WData},WShape.hasItems R xs .int=true→ ∃ns:List Int,xs=ns.map .int:=by
 intro zi;induction zi with
 |nil=>intro _;exact ⟨[],rfl⟩
 |cons x xs ih=>intro h;simp only [WShape.hasItems,bt] at h;obtain ⟨i,rfl⟩:=hasW_int h.1;obtain ⟨ns,rfl⟩:=ih h.2;exact ⟨i::ns,rfl⟩
theorem well_ints {P:ah} {h:Heap}: ∀{ns:List Int} {vs:List ak},WellAll P h vs (ns.map .int)→ ∀σ,cF σ (aI ns) vs:=by
 intro zi;induction zi with
 |nil=>intro vs h _;cases h;exact .nil
 |cons n ns ih=>
  rintro vs h σ
  cases h with
  |cons hw hr=>cases hw;exact .cons ⟨_,rfl⟩ (ih hr σ)
theorem law_post (args:List WData):f5.row.claim.post args (.bool true) args=true:=by show (WShape.has [] (.bool true) .bool&&WTm.holds [] (.eq .res (.lit (.bool true))) {args:=args,res:=some (.bool true),after:=args})=true;kernel_rfl
theorem law_walk {d:DefRec} {kwd:List (Str×dh)} (hn:d.name="law"):WalkO qv lo (fun _ _=>True) (InK kF) f5.row.toRowW d kwd fun f vs=>PySem.call f vs:=by
 intro w s₀ s₁ mg mb G Y a o pm cd doc dV kV ho hd hcd hD hmg hg args vals as hpre hlay hrd hwl hlo;obtain ⟨h1,h2⟩:=pre_splitW hpre;obtain ⟨x,r,rfl,h5,h3⟩:=hasAllW_cons h1;have:=hasAllW_nil h3;subst this;obtain ⟨xs,rfl,hi⟩:=hasW_list h5;obtain ⟨ns,rfl⟩:=items_int hi;have hz:ns.length≤63:=by
  have h6:=(holds_andW (a:= .not (.lt (.lit (.int 63)) (.len (.arg 0)))) (b:= .lit (.bool true)) h2).1;have e:WTm.holds f5.row.records (.not (.lt (.lit (.int 63)) (.len (.arg 0)))) {args:=[.list (ns.map .int)]}= !decide ((63:Int)<((ns.map WData.int).length:Nat)):=by show WTm.holds f5.row.records (.not (.lit (.bool (decide ((63:Int)<((ns.map WData.int).length:Nat)))))) {args:=[.list (ns.map .int)]}=_;cases decide ((63:Int)<((ns.map WData.int).length:Nat))<;>rfl
  rw [e,bl] at h6;simp at h6;exact aQ 0x48000fd21a8001fa5c1 33 [_] h6
 cases hwl with
 |cons hw hr=>
 cases hr;cases hw with
 |@list b vs _ hb hv=>
 have KF:(kF w.params).In s₁.heap:=Y;rw [hn] at hmg;have ea:mg "law"=some (.ref 259):=mg_of KF G.T.g (by have:=(kf_law w.params []).1;rwa [be] at this);rw [ea] at hmg;obtain rfl:=fv.inj (ba hmg);obtain ⟨R,hR,hc,hrr⟩:=Cn ns;have main: ∀L:Frag,(kF w.params++L).In s₁.heap→fL (kF w.params++L) b ns→bx (model pw w) callerA (call (.ref 259) [.ref b])
   (fun v s'=>GoodWG f5.row.claim (classAt s₀.heap) (ExcName.means s₀.heap) [.list (ns.map .int)] s₁ (.ok (.ret v)) s')
   (fun e s'=>GoodWG f5.row.claim (classAt s₀.heap) (ExcName.means s₀.heap) [.list (ns.map .int)] s₁ (.error e) s') s₁:=by
  intro L KX hS;refine Bn ⟨KX,G.T.nolimit,⟨_,G.T.g⟩,⟨_,G.T.b,G.T.builtins⟩⟩ ?_ (fun a o e=>dc (KX a o e)) (kn w.params L) (knC w.params L) (cyc w.params L) hS hz hR hc hrr (fun x _ w hw _=>Fn x w hw) fun s' keep e1 e2=>?_
  ·obtain ⟨_,_,_,_,_,_,_,_,_,_,_,e,_⟩:=(kf_law w.params L).2.2
   exact dc (KX _ _ e)
  ·exact ⟨.inl ⟨.bool true, .bool true,[],rfl,fun _=>rfl, .bool _,law_post _,fun _=>⟨me,fun a ha=>by cases ha⟩⟩, .of_keep keep,e2, .of_eq (e1.trans hg)⟩
 cases e:(kF w.params).lookup b with
 |some o=>have e0:=KF b o e;rw [hb] at e0;have:=ba e0;subst this;refine main [] (by rw [be];exact KF) ⟨vs,0,by rw [be];exact e,well_ints hv⟩
 |none=>
  refine main [(b,{cls:= .type "list",data:= .seq vs.toArray})] (fun a o h=>?_) ⟨vs,0,?_,well_ints hv⟩
  ·rw [ou] at h
   cases e2:(kF w.params).lookup a with
   |some o'=>rw [e2] at h;cases h;exact KF a o e2
   |none=>
    rw [e2] at h;have h:List.lookup a [(b,({cls:= .type "list",data:= .seq vs.toArray}:Obj))]=some o:=h;rw [c7] at h;split at h
    ·rename_i q
     rw [eq_of_beq q];cases h;exact hb
    ·cases h
  ·rw [ou,e,Option.none_or,c7]
   rw [beq_self_eq_true]
end H
end
end Mine
theorem PySem.Challenge.cw_oy0429_01_holds : PySem.Challenge.rw_oy0429_01.Holds := by
  refine holds_law Mine.H.said fun _ => ?_
  refine PySem.W.holds_open (q := Mine.H.qv) (loose := Mine.H.lo) (Xt := fun _ => true) (XP := fun _ _ => True) (Yf := Mine.H.obsF) (Ya := Mine.H.valF) (YP := InK Mine.H.kF) (N := 40000) Mine.H.left (InK.of Mine.H.kas_ok) InK.keeps (fun _ _ => trivial) (fun _ _ _ _ _ => trivial) (by rfl) (by rfl) (by rfl) (fun s e => recFacts_nil rfl) (by rfl) (by first | assumption | decide +kernel) (by decide +kernel) ⟨rfl, rfl, rfl, rfl, rfl, by decide +kernel⟩ ?hw ?hc
  case hw => w_witness2
  case hc => exact Mine.H.law_walk rfl
