import PyProof.Rows.All
import Wide.All
import OpenK.AllK
import Wide.FinOn
import Lean
import PySem.Challenge.RW_xh0027_02
open PySem PySem.Spec PySem.Calls PyProof.Rows PySem.W
set_option linter.all false
set_option bootstrap.genMatcherCode false
set_option compiler.extract_closed false
set_option Elab.async false
set_option autoImplicit false
set_option maxRecDepth 20000
set_option maxHeartbeats 8000000
set_option hygiene false
set_option tactic.hygienic false
namespace Mine.Internal
theorem aw {α:Type} {a:α} {s t:List α} (h:a∈s++t):a∈s∨a∈t:=List.mem_append.mp h
theorem aX {α:Type} {a b:α} {l:List α} (h:a∈b::l):a=b∨a∈l:=List.mem_cons.mp h
theorem iW {α β:Type} {f:α->β} {l:List α} {b:β} (h:b∈l.map f):∃ a,a∈l/\f a=b:=List.mem_map.mp h
theorem aE {α:Type} {a b:α} (h:a∈[b]):a=b:=List.mem_singleton.mp h
theorem lR {α:Type} {a:α} (s:List α) {t:List α} (h:a∈t):a∈s++t:=List.mem_append_right s h
theorem cY {α:Type} {a:α} {s:List α} (t:List α) (h:a∈s):a∈s++t:=List.mem_append_left t h
theorem fJ {α β:Type} {s:List α} (f:α->β):(s.map f).length=s.length:=List.length_map f
theorem jt {α:Type} {s t:List α}:(s++t).length=s.length + t.length:=List.length_append
theorem gY {α β:Type} {f:α->β} {l:List α} {i:Nat}:(l.map f)[i]? =(l[i]?).map f:=List.getElem?_map
theorem kr {α:Type} (a b c:List α):a++b++c=a++(b++c):=List.append_assoc a b c
theorem jJ {α β γ:Type} {g:β->γ} {f:α->β} {l:List α}:(l.map f).map g=l.map (g ∘ f):=List.map_map
section
def FY (a:Array Lean.Syntax):List String->List (Lean.Name×Array Lean.Syntax)->Lean.Syntax
 | t::ts,(k,r)::q=>
  let u:=(t.drop 1).toString
  match t.front with
  | '('=>FY a ts ((if u.front=='%' then `Lean.Parser.Tactic++(u.drop 1).toString.toName else if u.front=='&' then `Lean.Parser.Term++(u.drop 1).toString.toName else u.toName,#[])::(k,r)::q)
  | ')'=>match q with
   | (l,x)::q=>FY a ts ((l,x.push (.node .none k r))::q)
   | []=> .missing
  | '\''=>FY a ts ((k,r.push (.atom .none u))::q)
  | '$'=>FY a ts ((k,r.push (a.getD u.toNat! .missing))::q)
  | _=>FY a ts ((k,r.push (Lean.mkIdent t.toName))::q)
 | _,(_,r)::_=>r.getD 0 .missing
 | _,_=> .missing
def eS (s:String) (a:Array Lean.Syntax):Lean.Syntax:=FY a (s.splitOn " ") [(`x,#[])]
def FZ (c:String):List Lean.Syntax->Array Lean.Syntax->Lean.Syntax
 | [],r=> .node .none `null r
 | [x],r=> .node .none `null (r.push x)
 | x::l,r=>FZ c l ((r.push x).push (.atom .none c))
def CI (s:String) (a:Array Lean.Syntax):List Lean.Syntax->List Lean.Syntax
 | []=>[]
 | x::l=>eS s (a.push x)::CI s a l
def FP:List Lean.Name->List Lean.Syntax
 | []=>[]
 | x::l=>Lean.mkIdent x::FP l
def I9:List String->List Lean.Name
 | []=>[]
 | x::l=>x.toName::I9 l
def DC (l:List Lean.Syntax):Lean.Syntax:=eS "(%paren '( (%tacticSeq (%tacticSeq1Indented $0 ) ) ') )" #[FZ ";" l #[]]
def FO (l:List Lean.Syntax):Lean.Syntax:=eS "(%first 'first $0 )" #[.node .none `null (CI "(group '| (%tacticSeq (%tacticSeq1Indented (null $0 ) ) ) )" #[] l).toArray]
def Kz (x:Lean.Syntax):Lean.Syntax:=eS "(&app Eq.symm (null $0 ) )" #[x]
def K5 (n:Lean.Name) (e:Lean.Syntax) (l:List Lean.Syntax):Lean.Syntax:=DC (eS "(%tacticHave__ 'have (&letConfig (null ) ) (&letDecl (&letIdDecl (&letId hq ) (null ) (null ) ':= $0 ) ) )" #[e]::eS "(%clear 'clear (null $0 ) )" #[Lean.mkIdent n]::l)
def LE (s:Lean.Syntax):Lean.Syntax:=
 let h:=s[1]
 FO (CI "(%exact 'exact (&app $1 (null $0 ) ) )" #[h] (FP [`nS,`sN,`mN,`Lj,`KV])++CI "(%cases 'cases (null (%elimTarget (null ) $0 ) ) (null 'using $1 ) (null ) )" #[h] (FP (I9 ("Data.intE Data.strE DataAll.nilE DataAll.consE Data.listE Data.tupleE Data.noneE Data.boolE Data.dSE Data.dIE".splitOn " ")))++
  [K5 h.getId (eS "(&app $0 (null $1 ) )" #[Lean.mkIdent `sI,h]) [FO [eS "(%subst 'subst (null hq ) )" #[],eS "(%cases 'cases (null (%elimTarget (null ) hq ) ) (null ) (null ) )" #[]]],eS "(%subst 'subst (null $0 ) )" #[h],eS "(%rcases 'rcases (null (%elimTarget (null ) $0 ) ) (null 'with (%rcasesPatLo (%rcasesPatMed (null (%rcasesPat.tuple '⟨ (null ) '⟩ ) ) ) (null ) ) ) )" #[h]])
def Ky (l:List Lean.Syntax):Lean.Syntax:=eS "(&byTactic 'by (%tacticSeq (%tacticSeq1Indented $0 ) ) )" #[FZ ";" l #[]]
def KB (f s:Lean.Name):Lean.Syntax:=eS "(%exact 'exact (&app $0 (null $1 $2 ) ) )" #[Lean.mkIdent f,Ky [eS "(%assumption 'assumption )" #[]],Ky [eS "(%simp 'simp (%optConfig (null ) ) (null ) (null 'only ) (null '[ (null (%simpLemma (null ) (null ) $0 ) ) '] ) (null ) )" #[Lean.mkIdent s]]]
def K6 (l:List Lean.Syntax):Lean.Syntax:=FO (eS "(%assumption 'assumption )" #[]::eS "(%exact 'exact (&app Nat.le_refl (null (&hole '_ ) ) ) )" #[]::KB `Nat.le_trans `Nat.reduceLeDiff::(l++[eS "(%lia 'lia (%optConfig (null ) ) )" #[],eS "(%omega 'omega (%optConfig (null ) ) )" #[]]))
def LB (s:Lean.Syntax):Lean.MacroM Lean.Syntax:=
 if s[1].getNumArgs==1&&s[2].getNumArgs==0&&s[3].getNumArgs==1&&s[1][0][1].isIdent&&s[1][0][0].getNumArgs==0 then return FO (CI "(%induction 'induction (null $0 ) (null 'using $2 ) (null ) $1 )" #[s[1][0],s[3]] (FP [`oE,`lE,`bE,`nE,`Lz])) else Lean.Macro.throwUnsupported
def K4 (b:Bool):List Lean.Syntax->List Lean.Syntax
 | []=>[]
 | x::l=>(if b then x else Kz x)::K4 b l
def LD (r:Lean.Syntax):Lean.Syntax:=
 let b:=r[0].getNumArgs==1
 FO (CI "(%refine 'refine (&subst $0 '▸ (null (&syntheticHole '? '_ ) ) ) )" #[] (K4 b (r[1]::CI "(&app $0 $1 )" #[r[1]] [eS "(null (&hole '_ ) )" #[],eS "(null (&hole '_ ) (&hole '_ ) )" #[],eS "(null (&hole '_ ) (&hole '_ ) (&hole '_ ) )" #[]])))
def Lc:List Lean.Syntax->List Lean.Syntax
 | []=>[]
 | x::l=>LD x::Lc l
def K8 (h:Lean.Syntax):List Lean.Syntax->List Lean.Syntax
 | []=>[]
 | r::l=>DC [eS "(%tacticHaveI__ 'haveI (&letConfig (null ) ) (&letDecl (&letIdDecl (&letId zq ) (null ) (null ) ':= (&subst $0 '▸ (null $1 ) ) ) ) )" #[if r[0].getNumArgs==1 then Kz r[1] else r[1],h],eS "(%clear 'clear (null $0 ) )" #[h],eS "(%rename 'rename (&hole '_ ) '=> $0 )" #[h]]::K8 h l
def LC (s:Lean.Syntax):Lean.MacroM Lean.Syntax:=
 let l:=s[2][1].getSepArgs.toList
 if s[3].getNumArgs==0 then return DC (Lc l++[eS "(%tacticTry_ 'try (%tacticSeq (%tacticSeq1Indented (null (%withReducible 'with_reducible (%tacticSeq (%tacticSeq1Indented (null (%tacticRfl 'rfl ) ) ) ) ) ) ) ) )" #[]])
 else
  let h:=s[3][0][1][0][0]
  if s[3][0][1][0].getNumArgs==1&&h.isIdent then return DC (K8 h l) else Lean.Macro.throwUnsupported
def Ja:List Lean.Syntax->Nat->List Lean.Syntax->List Lean.Syntax->Option (List Lean.Syntax×List Lean.Syntax)
 | [],_,b,c=>some (b.reverse,c.reverse)
 | p::l,i,b,c=>
  let r:=p[0][0][0]
  let w:=Lean.mkIdent (.mkSimple ("zz"++toString i))
  if p[0][0].getNumArgs != 1 then none
  else if r[0].isIdent&&r[0].getId != `rfl then Ja l (i+1) (r[0]::b) c
  else if r[0].isToken "_" then Ja l (i+1) (eS "(&hole '_ )" #[]::b) c
  else Ja l (i+1) (w::b) (eS "(%obtain 'obtain (null (%rcasesPatMed (null $1 ) ) ) (null ) (null ':= (null $0 ) ) )" #[w,r]::c)
def Kx (x e:Lean.Syntax) (cl:List Lean.Syntax):Lean.Syntax:=DC (eS "(%refine 'refine (&app $0 (null $1 (&syntheticHole '? '_ ) ) ) )" #[x,e]::cl)
def KA (e:Lean.Syntax) (cl:List Lean.Syntax) (n:Nat):Nat->List Lean.Syntax
 | 0=>[]
 | j+1=>let k:=n - j - 1;if k<9&&j<13 then Kx (Lean.mkIdent (.mkSimple ("c"++toString k++"_"++toString (j+1)))) e cl::KA e cl n j else KA e cl n j
def K7 (x:Lean.Name):List Lean.Syntax->Bool
 | []=>false
 | p::l=>(p.find? λz=>z.isIdent&&z.getId==x).isSome || K7 x l
def LF (s:Lean.Syntax):Lean.MacroM Lean.Syntax:=
 let m:=s[1][0][0]
 let e:=s[3][1][0]
 let ps:=m[0][1].getSepArgs.toList
 let n:=ps.length
 if m.getNumArgs==1&&m[0][0].isToken "⟨"&&s[2].getNumArgs==0&&s[3][1].getNumArgs==1&&2<=n then
  match Ja ps 0 [] [] with
  | none=>Lean.Macro.throwUnsupported
  | some (b,c)=>
   let a:=e.getKind==`Lean.Parser.Term.typeAscription
   let y:=if a then e[1] else e
   let x:=y[1][0]
   let g:=y[1].getNumArgs==1
   let cl:=if e.isIdent || (g&&x.isIdent&&(a || K7 x.getId (b++c))) then [eS "(%tacticTry_ 'try (%tacticSeq (%tacticSeq1Indented (null (%clear 'clear (null $0 ) ) ) ) ) )" #[if e.isIdent then e else x]] else []
   let f:=y[0].getId
   let al:=if n==3&&g&&f==`ah then [Kx (Lean.mkIdent `Ls) x cl] else if n==3&&g&&f==`aA then [Kx (Lean.mkIdent `Lu) x cl] else KA y cl n n
   return DC (FO al::eS "(%intro 'intro $0 )" #[.node .none `null b.toArray]::c)
 else Lean.Macro.throwUnsupported
def K9 (l:List Lean.Syntax):List Lean.Syntax:=CI "(%simpLemma (null ) (null ) $0 )" #[] l
def Ld (s:Lean.Syntax) (a c:String):Lean.Syntax:=
 let x:=s[1][1].getSepArgs.toList
 let d:=eS "(%tacticTry_ 'try (%tacticSeq (%tacticSeq1Indented (null (%dsimp 'dsimp (%optConfig (null ) ) (null ) (null 'only ) (null '[ $0 '] ) (null ) ) ) ) ) )" #[FZ "," (eS "(%simpErase '- eq_self )" #[]::K9 (FP (I9 (a.splitOn " "))++x.filter λt=>t.isIdent)) #[]]
 eS "(%paren '( (%tacticSeq (%tacticSeq1Indented (null $0 '; (%tacticRepeat_ 'repeat (%tacticSeq (%tacticSeq1Indented (null (%paren '( (%tacticSeq (%tacticSeq1Indented (null (%simp 'simp (%optConfig (null ) ) (null (%discharger '( (patternIgnore (token.disch 'disch ) ) ':= (%tacticSeq (%tacticSeq1Indented (null (%decide 'decide (%optConfig (null (%configItem (%posConfigItem '+ kernel ) ) ) ) ) ) ) ) ') ) ) (null 'only ) (null '[ $1 '] ) (null ) ) '; $0 ) ) ) ') ) ) ) ) ) '; (%tacticTry_ 'try (%tacticSeq (%tacticSeq1Indented (null (%withReducible 'with_reducible (%tacticSeq (%tacticSeq1Indented (null (%tacticRfl 'rfl ) ) ) ) ) ) ) ) ) ) ) ) ') )" #[d,FZ "," (K9 (FP (I9 (c.splitOn " "))++x)) #[]]
local macro_rules (kind:=PySem.W.«termTb_g%») | s=>return Ky [FO [eS "(%exact 'exact rfl )" #[],eS "(%exact 'exact (&app Nat.ne_of_beq_eq_false (null rfl ) ) )" #[],eS "(%exact 'exact (&app Nat.le_of_ble_eq_true (null rfl ) ) )" #[],eS "(tacticKernel_rfl 'kernel_rfl )" #[],eS "(%decide 'decide (%optConfig (null (%configItem (%posConfigItem '+ kernel ) ) ) ) )" #[]]]
section
open PySem.W.X
structure Wd where
 prog:Program
 w:World
 G:Heap
 mg:Str->Option Value
 tabs:List (Addr×Addr×Str)
noncomputable def Wd.T (W:Wd):List Addr:=W.tabs.map (·.2.1)
noncomputable abbrev Wd.M (W:Wd):Model:=model W.prog W.w
noncomputable def hZ (prog:Program) (w:World) (h:Heap) (mg:Str->Option Value):Wd:=⟨prog,w,hideAll h [122,151],mg,[(124,122,"_law_stretch.<locals>.<lambda>"),(153,151,"law.<locals>.<lambda>")]⟩
noncomputable abbrev jI (ps:Array Value):Obj:={ cls:= .none,data:= .fields ps }
noncomputable def JK {α:Type}:List α->Nat->Option α
 | [],_=>none
 | x::_,0=>some x
 | _::r,k+1=>JK r k
noncomputable def bN (i:Nat):Option Stmt:=JK PySem.Challenge.pw_xh0027_02.main.body i
noncomputable def BP:Arguments:={ posonlyargs:=[],args:=[],vararg:=none,kwonlyargs:=[],kw_defaults:=[],kwarg:=none,defaults:=[] }
noncomputable def BO:Scope:={ kind:= .module,names:=[],isGenerator:=false,isCoroutine:=false }
noncomputable def pM:Option Stmt->List Stmt
 | some (.FunctionDef _ _ b _ _ _ _ _ _ _)=>b
 | _=>[]
noncomputable def dp:Option Stmt->Scope
 | some (.FunctionDef _ _ _ _ _ _ sc _ _ _)=>sc
 | _=>BO
noncomputable def uO:Option Stmt->Arguments
 | some (.FunctionDef _ p _ _ _ _ _ _ _ _)=>p
 | _=>BP
noncomputable def HT:Option Stmt->Str
 | some (.FunctionDef n _ _ _ _ _ _ _ _ _)=>n
 | _=>""
noncomputable def gH (i:Nat):Option Stmt->Option Stmt
 | some (.ClassDef _ _ _ b _ _ _ _ _ _ _)=>JK b i
 | _=>none
noncomputable def aj (i:Nat):List Stmt:=pM (bN i)
noncomputable def GN:List Stmt->List Stmt×List Stmt
 | .For _ _ b e _::_=>(b,e)
 | .While _ b e _::_=>(b,e)
 | .If _ b e _::_=>(b,e)
 | _=>([],[])
noncomputable def cU (i:Nat) (l:List Stmt):List Stmt:=(GN (l.drop i)).1
noncomputable def Bl (i:Nat) (l:List Stmt):List Stmt:=(GN (l.drop i)).2
noncomputable def jD (i:Nat):Scope:=dp (bN i)
noncomputable def zA (i:Nat):Arguments:=uO (bN i)
noncomputable def Hh (t:Option Stmt) (q:Str) (dv kv:Value) (m:Str) (tok:Tok) (code:Addr):FuncData:=
 { name:=HT t,qualname:=q,params:=uO t,body:= .stmts (pM t),scope:=dp t,globals:=mainGlobals,closure:=[],defaults:=dv,kwdefaults:=kv,pyModule:= .str m tok,code:= .ref code,builtins:=builtinsNs }
noncomputable def gc:List Str:=["len","list","int","sum","sorted","isinstance","tuple","range","enumerate","min","max","dict","str","ValueError"]
noncomputable def gv:List (Str×Addr):=[("insort_right",23),("bisect_right",32),("insort_left",41),("bisect_left",50),("_iter_escaped_chars",57),("_strip_quoted_realnames",64),("_check_parenthesis",71),("TupleComp",95),("add_func_stats",106),("add_callers",113),("count_calls",120),("_law_stretch",125),("_law_hop",132),("_law_rows",137),("_law_text",144),("_law_read",149),("law",154)]
noncomputable abbrev po:Program:=PySem.Challenge.pw_xh0027_02
noncomputable def s8:Program:=view po [6,7,8,10,11,12,13,15,16,17,18,19,20]
noncomputable def sr:List Str:=["insort_right","bisect_right","insort_left","bisect_left"]
noncomputable def fo (a:Addr) (t:Option Stmt) (q:Str) (dv kv:Value) (m:Str) (tok:Tok):Addr×Obj:=(a,{ cls:= .type "function",data:= .func (Hh t q dv kv m tok (a - 1)) })
noncomputable def dO (a:Addr) (tok:Tok):Addr×Obj:=(a,{ cls:= .type "tuple",data:= .seq #[.int 0 tok,.none] })
noncomputable def vM:List (Addr×Obj):=[(122,jI #[]),(151,jI #[]),(4,{ cls:= .type "module",dict:=some 0 }),
 fo 23 (bN 1) "insort_right" (.ref 15) (.ref 16) "cpy313.bisect" 187,fo 32 (bN 2) "bisect_right" (.ref 24) (.ref 25) "cpy313.bisect" 187,fo 41 (bN 3) "insort_left" (.ref 33) (.ref 34) "cpy313.bisect" 187,fo 50 (bN 4) "bisect_left" (.ref 42) (.ref 43) "cpy313.bisect" 187,
 fo 57 (bN 6) "_iter_escaped_chars" .none .none "cpy313.email.utils" 243,fo 64 (bN 7) "_strip_quoted_realnames" .none .none "cpy313.email.utils" 243,fo 71 (bN 8) "_check_parenthesis" .none .none "cpy313.email.utils" 243,
 fo 106 (bN 11) "add_func_stats" .none .none "cpy313.pstats" 277,fo 113 (bN 12) "add_callers" .none .none "cpy313.pstats" 277,fo 120 (bN 13) "count_calls" .none .none "cpy313.pstats" 277,
 fo 125 (bN 15) "_law_stretch" .none .none "law_xh0027_02" 359,fo 132 (bN 16) "_law_hop" .none .none "law_xh0027_02" 359,fo 137 (bN 17) "_law_rows" .none .none "law_xh0027_02" 359,fo 144 (bN 18) "_law_text" .none .none "law_xh0027_02" 359,fo 149 (bN 19) "_law_read" .none .none "law_xh0027_02" 359,fo 154 (bN 20) "law" .none .none "law_xh0027_02" 359,
 fo 85 (gH 0 (bN 10)) "TupleComp.__init__" .none .none "cpy313.pstats" 277,fo 92 (gH 1 (bN 10)) "TupleComp.compare" .none .none "cpy313.pstats" 277,
 dO 15 189,dO 24 202,dO 33 216,dO 42 229,
 (95,excClassObj "TupleComp" "TupleComp" 95 94 [.type "object"] [.type "object"] true [] [] false none none none none (some (.str "TupleComp" 279)) (some (.str "TupleComp" 287)) (some (.bool true)) "object.__new__")]
noncomputable def pT:List (Addr×Str):=[(22,"insort_right"),(31,"bisect_right"),(40,"insort_left"),(49,"bisect_left"),(56,"_iter_escaped_chars"),(63,"_strip_quoted_realnames"),(70,"_check_parenthesis"),(105,"add_func_stats"),(112,"add_callers"),(119,"count_calls"),(124,"_law_stretch"),(131,"_law_hop"),(136,"_law_rows"),(143,"_law_text"),(148,"_law_read"),(153,"law"),(84,"TupleComp.__init__"),(91,"TupleComp.compare")]
noncomputable def Ip:Value->Option Str
 | .str n _=>some n
 | _=>none
noncomputable def Eu:PySem.Data->Option (Array Value)
 | .fields vs=>some vs
 | _=>none
noncomputable def lD (h:Heap) (c:Addr):Option Str:=(h.get? c).bind λo=>(Eu o.data).bind λvs=>(vs[1]?).bind Ip
noncomputable def Fj:Value->Option Addr
 | .ref a=>some a
 | _=>none
noncomputable def Ir:Value->Bool
 | .str _ _=>true
 | _=>false
noncomputable def EB:Value->Bool
 | .int _ _=>true
 | _=>false
noncomputable def CW:Value->Bool
 | .bool _=>true
 | _=>false
noncomputable def C9:Value->Bool
 | .type t=>t=="code"
 | _=>false
noncomputable def Iw (o:Obj) (vs:Array Value) (P:Addr):Bool:=C9 o.cls&&(vs[11]?.bind Fj==some P&&(Fj (vs.getD 11 .none)==some P&&(Ir (vs.getD 18 .none)&&(EB (vs.getD 7 .none)&&(CW (vs.getD 9 .none)&&EB (vs.getD 10 .none))))))
noncomputable def rk (h:Heap) (c P:Addr):Bool:=((h.get? c).bind λo=>(Eu o.data).map λvs=>Iw o vs P)==some true
noncomputable def Dp:Value->Bool
 | .none=>true
 | _=>false
noncomputable def IY (h:Heap) (a:Addr):Bool:=h.isNs a&&(h.nsMap a "key").any Dp
noncomputable def o0:List Str:=["__getattribute__","__getattr__","__setattr__","comp_select_list","__init__","compare"]
noncomputable def uz (s:Shared):List (Option Obj)×Nat×List (Option Value)×List (Option Value)×List (Option Value)×List (Option Str)×Bool:=
 (vM.map λp=>s.heap.get? p.1,s.heap.objs.size,gv.map λp=>s.heap.nsMap mainGlobals p.1,(("__builtins__":Str)::gc).map λy=>s.heap.nsMap mainGlobals y,o0.map λy=>s.heap.nsMap 94 y,pT.map λp=>lD s.heap p.1,
  rk s.heap 124 122&&rk s.heap 153 151&&s.heap.isNs 94&&s.heap.isNs mainGlobals&&(s.heap.get? sysModules).isSome&&[16,25,34,43].all (IY s.heap))
noncomputable def uZ (_:World):List (Option Obj)×Nat×List (Option Value)×List (Option Value)×List (Option Value)×List (Option Str)×Bool:=
 (vM.map λp=>some p.2,155,gv.map λp=>some (.ref p.2),some (.ref 4)::gc.map λ_=>none,[none,none,none,none,some (.ref 85),some (.ref 92)],pT.map λp=>some p.2,true)
def AF (w:World) (s₀ s₁:Shared) (mg:Str->Option Value):Prop:=∀ (mb:Str->Option Value) (G:Ground s8 sr PySem.Challenge.rw_xh0027_02.row.toRowW.records (XL s8 []) w s₀ mg mb s₁.heap) (Y:uz s₀=uZ w) (fa:Addr) (hmg:mg "law"=some (.ref fa)) (hg:s₁.gens=#[])
  (args:List WData) (vals:List Value) (as:List Addr) (L:Laid PySem.Challenge.rw_xh0027_02.row.toRowW.records w s₀ s₁ args vals as) (hpre:PySem.Challenge.rw_xh0027_02.row.toRowW.claim.pre args=true) (hlay:WData.layableAll args=true) (hrd:ReadsAllW PySem.Challenge.rw_xh0027_02.row.toRowW.records (classAt s₀.heap) s₁.heap vals args as) (hwl:WellAll w.params s₁.heap vals args) (hlo:∀ a∈as,(a==sysModules)=false),
  wpAny (model PySem.Challenge.rw_xh0027_02.row.toRowW.prog w) callerA (call (.ref fa) vals) (λv s'=>GoodWG PySem.Challenge.rw_xh0027_02.row.toRowW.claim (classAt s₀.heap) (ExcName.means s₀.heap) args s₁ (.ok (.ret v)) s')
    (λe s'=>GoodWG PySem.Challenge.rw_xh0027_02.row.toRowW.claim (classAt s₀.heap) (ExcName.means s₀.heap) args s₁ (.error e) s') s₁
def wx (W:Wd):Prop:=∃ w s₀ s₁ mg,W=hZ po w s₁.heap mg/\¬ AF w s₀ s₁ mg
theorem CE:Nonempty Wd:=⟨⟨po,⟨λ_ _=>0,{ strHash:=λ_=>0,shareClass:=id,mergeTok:=id,idOf:=λ_=>0,idOfShared:=λ_ _=>0,followText:=λ_=>true,idOfImm:=λ_=>0 }⟩,default,λ_=>none,[]⟩⟩
@[irreducible] noncomputable def W:Wd:=@Classical.epsilon Wd CE wx
theorem BF (core:∀ (w:World) (s₀ s₁:Shared) (mg:Str->Option Value),W=hZ po w s₁.heap mg->AF w s₀ s₁ mg) (w:World) (s₀ s₁:Shared) (mg:Str->Option Value):AF w s₀ s₁ mg:=
 Classical.byContradiction λh=>by
  have hb:wx W:=by unfold W;exact @Classical.epsilon_spec Wd wx ⟨_,w,s₀,s₁,mg,rfl,h⟩
  obtain ⟨w,s₀,s₁,mg,e,q⟩:=hb
  exact q (core w s₀ s₁ mg e)
end
theorem nS {α:Type} {a:α} {P:Prop} (h:none=some a):P:=by cases h
theorem sN {α:Type} {a:α} {P:Prop} (h:some a=none):P:=by cases h
theorem mN {α:Type} {a:α} {P:Prop} (h:a∈([]:List α)):P:=absurd h List.not_mem_nil
theorem Lj {P:Prop} (h:true=false):P:=Bool.noConfusion h
theorem KV {P:Prop} (h:false=true):P:=Bool.noConfusion h
theorem sI {α:Type} {a b:α} (h:some a=some b):a=b:=Option.some.inj h
theorem oE {α:Type _} {P:Option α->Prop} (none:P none) (some:∀ a,P (some a)) (o:Option α):P o:=Option.rec none some o
theorem lE {α:Type _} {P:List α->Prop} (nil:P []) (cons:∀ a l,P (a::l)) (o:List α):P o:=List.casesOn o nil cons
theorem bE {P:Bool->Prop} (true:P true) (false:P false) (b:Bool):P b:=Bool.rec false true b
theorem nE {P:Nat->Prop} (zero:P 0) (succ:∀ n,P (n+1)) (n:Nat):P n:=Nat.casesOn n zero succ
theorem bI {c:Prop} [Decidable c] {α:Type} {o:Option α} {r:α} (h:(if c then o else none)=some r):c/\o=some r:=by
 by_cases q:c
 ·rw [if_pos q] at h;exact ⟨q,h⟩
 ·rw [if_neg q] at h;exact nS h
theorem ah {α β:Type} {o:Option α} {f:α->Option β} {b:β} (h:o.bind f=some b):∃ a,o=some a/\f a=some b:=Option.bind_eq_some_iff.mp h
theorem aA {α β:Type} {f:α->β} {o:Option α} {b:β} (h:o.map f=some b):∃ a,o=some a/\f a=b:=Option.map_eq_some_iff.mp h
theorem Ls {α β:Type} {o:Option α} {f:α->Option β} {b:β} {G:Prop} (h:o.bind f=some b) (g:∀ a,o=some a->f a=some b->G):G:=(ah h).elim λa q=>g a q.1 q.2
theorem Lu {α β:Type} {f:α->β} {o:Option α} {b:β} {G:Prop} (h:o.map f=some b) (g:∀ a,o=some a->f a=b->G):G:=(aA h).elim λa q=>g a q.1 q.2
theorem Di {P:Prop} (h:∀ G:Prop,(P->G)->G):P:=h P id
theorem c0_2 {A B:Prop} {G:Prop} (h:A/\B) (g:A->B->G):G:=g h.1 h.2
theorem c0_3 {A B C:Prop} {G:Prop} (h:A/\B/\C) (g:A->B->C->G):G:=g h.1 h.2.1 h.2.2
theorem c0_4 {A B C D:Prop} {G:Prop} (h:A/\B/\C/\D) (g:A->B->C->D->G):G:=g h.1 h.2.1 h.2.2.1 h.2.2.2
theorem c1_1 {α:Sort _} {A:α->Prop} {G:Prop} (h:∃ x,A x) (g:∀ x,A x->G):G:=h.elim λx h=>g x h
theorem c1_2 {α:Sort _} {A B:α->Prop} {G:Prop} (h:∃ x,A x/\B x) (g:∀ x,A x->B x->G):G:=h.elim λx h=>g x h.1 h.2
theorem c1_3 {α:Sort _} {A B C:α->Prop} {G:Prop} (h:∃ x,A x/\B x/\C x) (g:∀ x,A x->B x->C x->G):G:=h.elim λx h=>g x h.1 h.2.1 h.2.2
theorem c1_4 {α:Sort _} {A B C D:α->Prop} {G:Prop} (h:∃ x,A x/\B x/\C x/\D x) (g:∀ x,A x->B x->C x->D x->G):G:=h.elim λx h=>g x h.1 h.2.1 h.2.2.1 h.2.2.2
theorem c2_1 {α β:Sort _} {A:α->β->Prop} {G:Prop} (h:∃ x y,A x y) (g:∀ x y,A x y->G):G:=h.elim λx h=>h.elim λy h=>g x y h
theorem c2_2 {α β:Sort _} {A B:α->β->Prop} {G:Prop} (h:∃ x y,A x y/\B x y) (g:∀ x y,A x y->B x y->G):G:=h.elim λx h=>h.elim λy h=>g x y h.1 h.2
theorem c2_3 {α β:Sort _} {A B C:α->β->Prop} {G:Prop} (h:∃ x y,A x y/\B x y/\C x y) (g:∀ x y,A x y->B x y->C x y->G):G:=h.elim λx h=>h.elim λy h=>g x y h.1 h.2.1 h.2.2
theorem c2_4 {α β:Sort _} {A B C D:α->β->Prop} {G:Prop} (h:∃ x y,A x y/\B x y/\C x y/\D x y) (g:∀ x y,A x y->B x y->C x y->D x y->G):G:=h.elim λx h=>h.elim λy h=>g x y h.1 h.2.1 h.2.2.1 h.2.2.2
theorem c2_5 {α β:Sort _} {A B C D E:α->β->Prop} {G:Prop} (h:∃ x y,A x y/\B x y/\C x y/\D x y/\E x y) (g:∀ x y,A x y->B x y->C x y->D x y->E x y->G):G:=h.elim λx h=>h.elim λy h=>g x y h.1 h.2.1 h.2.2.1 h.2.2.2.1 h.2.2.2.2
theorem c2_6 {α β:Sort _} {A B C D E F:α->β->Prop} {G:Prop} (h:∃ x y,A x y/\B x y/\C x y/\D x y/\E x y/\F x y) (g:∀ x y,A x y->B x y->C x y->D x y->E x y->F x y->G):G:=h.elim λx h=>h.elim λy h=>g x y h.1 h.2.1 h.2.2.1 h.2.2.2.1 h.2.2.2.2.1 h.2.2.2.2.2
theorem c2_7 {α β:Sort _} {A B C D E F H:α->β->Prop} {G:Prop} (h:∃ x y,A x y/\B x y/\C x y/\D x y/\E x y/\F x y/\H x y) (g:∀ x y,A x y->B x y->C x y->D x y->E x y->F x y->H x y->G):G:=h.elim λx h=>h.elim λy h=>g x y h.1 h.2.1 h.2.2.1 h.2.2.2.1 h.2.2.2.2.1 h.2.2.2.2.2.1 h.2.2.2.2.2.2
theorem c3_2 {α β γ:Sort _} {A B:α->β->γ->Prop} {G:Prop} (h:∃ x y z,A x y z/\B x y z) (g:∀ x y z,A x y z->B x y z->G):G:=h.elim λx h=>h.elim λy h=>h.elim λz h=>g x y z h.1 h.2
theorem c3_3 {α β γ:Sort _} {A B C:α->β->γ->Prop} {G:Prop} (h:∃ x y z,A x y z/\B x y z/\C x y z) (g:∀ x y z,A x y z->B x y z->C x y z->G):G:=h.elim λx h=>h.elim λy h=>h.elim λz h=>g x y z h.1 h.2.1 h.2.2
theorem c3_4 {α β γ:Sort _} {A B C D:α->β->γ->Prop} {G:Prop} (h:∃ x y z,A x y z/\B x y z/\C x y z/\D x y z) (g:∀ x y z,A x y z->B x y z->C x y z->D x y z->G):G:=h.elim λx h=>h.elim λy h=>h.elim λz h=>g x y z h.1 h.2.1 h.2.2.1 h.2.2.2
theorem c3_6 {α β γ:Sort _} {A B C D E F:α->β->γ->Prop} {G:Prop} (h:∃ x y z,A x y z/\B x y z/\C x y z/\D x y z/\E x y z/\F x y z) (g:∀ x y z,A x y z->B x y z->C x y z->D x y z->E x y z->F x y z->G):G:=h.elim λx h=>h.elim λy h=>h.elim λz h=>g x y z h.1 h.2.1 h.2.2.1 h.2.2.2.1 h.2.2.2.2.1 h.2.2.2.2.2
theorem c3_7 {α β γ:Sort _} {A B C D E F H:α->β->γ->Prop} {G:Prop} (h:∃ x y z,A x y z/\B x y z/\C x y z/\D x y z/\E x y z/\F x y z/\H x y z) (g:∀ x y z,A x y z->B x y z->C x y z->D x y z->E x y z->F x y z->H x y z->G):G:=h.elim λx h=>h.elim λy h=>h.elim λz h=>g x y z h.1 h.2.1 h.2.2.1 h.2.2.2.1 h.2.2.2.2.1 h.2.2.2.2.2.1 h.2.2.2.2.2.2
theorem c4_1 {α β γ δ:Sort _} {A:α->β->γ->δ->Prop} {G:Prop} (h:∃ x y z u,A x y z u) (g:∀ x y z u,A x y z u->G):G:=h.elim λx h=>h.elim λy h=>h.elim λz h=>h.elim λu h=>g x y z u h
theorem c4_4 {α β γ δ:Sort _} {A B C D:α->β->γ->δ->Prop} {G:Prop} (h:∃ x y z u,A x y z u/\B x y z u/\C x y z u/\D x y z u) (g:∀ x y z u,A x y z u->B x y z u->C x y z u->D x y z u->G):G:=h.elim λx h=>h.elim λy h=>h.elim λz h=>h.elim λu h=>g x y z u h.1 h.2.1 h.2.2.1 h.2.2.2
theorem c4_8 {α β γ δ:Sort _} {A B C D E F H I:α->β->γ->δ->Prop} {G:Prop} (h:∃ x y z u,A x y z u/\B x y z u/\C x y z u/\D x y z u/\E x y z u/\F x y z u/\H x y z u/\I x y z u) (g:∀ x y z u,A x y z u->B x y z u->C x y z u->D x y z u->E x y z u->F x y z u->H x y z u->I x y z u->G):G:=h.elim λx h=>h.elim λy h=>h.elim λz h=>h.elim λu h=>g x y z u h.1 h.2.1 h.2.2.1 h.2.2.2.1 h.2.2.2.2.1 h.2.2.2.2.2.1 h.2.2.2.2.2.2.1 h.2.2.2.2.2.2.2
theorem c4_10 {α β γ δ:Sort _} {A B C D E F H I J K:α->β->γ->δ->Prop} {G:Prop} (h:∃ x y z u,A x y z u/\B x y z u/\C x y z u/\D x y z u/\E x y z u/\F x y z u/\H x y z u/\I x y z u/\J x y z u/\K x y z u) (g:∀ x y z u,A x y z u->B x y z u->C x y z u->D x y z u->E x y z u->F x y z u->H x y z u->I x y z u->J x y z u->K x y z u->G):G:=h.elim λx h=>h.elim λy h=>h.elim λz h=>h.elim λu h=>g x y z u h.1 h.2.1 h.2.2.1 h.2.2.2.1 h.2.2.2.2.1 h.2.2.2.2.2.1 h.2.2.2.2.2.2.1 h.2.2.2.2.2.2.2.1 h.2.2.2.2.2.2.2.2.1 h.2.2.2.2.2.2.2.2.2
theorem c4_11 {α β γ δ:Sort _} {A B C D E F H I J K L:α->β->γ->δ->Prop} {G:Prop} (h:∃ x y z u,A x y z u/\B x y z u/\C x y z u/\D x y z u/\E x y z u/\F x y z u/\H x y z u/\I x y z u/\J x y z u/\K x y z u/\L x y z u) (g:∀ x y z u,A x y z u->B x y z u->C x y z u->D x y z u->E x y z u->F x y z u->H x y z u->I x y z u->J x y z u->K x y z u->L x y z u->G):G:=h.elim λx h=>h.elim λy h=>h.elim λz h=>h.elim λu h=>g x y z u h.1 h.2.1 h.2.2.1 h.2.2.2.1 h.2.2.2.2.1 h.2.2.2.2.2.1 h.2.2.2.2.2.2.1 h.2.2.2.2.2.2.2.1 h.2.2.2.2.2.2.2.2.1 h.2.2.2.2.2.2.2.2.2.1 h.2.2.2.2.2.2.2.2.2.2
theorem c4_13 {α β γ δ:Sort _} {A B C D E F H I J K L M N:α->β->γ->δ->Prop} {G:Prop} (h:∃ x y z u,A x y z u/\B x y z u/\C x y z u/\D x y z u/\E x y z u/\F x y z u/\H x y z u/\I x y z u/\J x y z u/\K x y z u/\L x y z u/\M x y z u/\N x y z u) (g:∀ x y z u,A x y z u->B x y z u->C x y z u->D x y z u->E x y z u->F x y z u->H x y z u->I x y z u->J x y z u->K x y z u->L x y z u->M x y z u->N x y z u->G):G:=h.elim λx h=>h.elim λy h=>h.elim λz h=>h.elim λu h=>g x y z u h.1 h.2.1 h.2.2.1 h.2.2.2.1 h.2.2.2.2.1 h.2.2.2.2.2.1 h.2.2.2.2.2.2.1 h.2.2.2.2.2.2.2.1 h.2.2.2.2.2.2.2.2.1 h.2.2.2.2.2.2.2.2.2.1 h.2.2.2.2.2.2.2.2.2.2.1 h.2.2.2.2.2.2.2.2.2.2.2.1 h.2.2.2.2.2.2.2.2.2.2.2.2
theorem c5_1 {α β γ δ ε:Sort _} {A:α->β->γ->δ->ε->Prop} {G:Prop} (h:∃ x y z u v,A x y z u v) (g:∀ x y z u v,A x y z u v->G):G:=h.elim λx h=>h.elim λy h=>h.elim λz h=>h.elim λu h=>h.elim λv h=>g x y z u v h
theorem c5_4 {α β γ δ ε:Sort _} {A B C D:α->β->γ->δ->ε->Prop} {G:Prop} (h:∃ x y z u v,A x y z u v/\B x y z u v/\C x y z u v/\D x y z u v) (g:∀ x y z u v,A x y z u v->B x y z u v->C x y z u v->D x y z u v->G):G:=h.elim λx h=>h.elim λy h=>h.elim λz h=>h.elim λu h=>h.elim λv h=>g x y z u v h.1 h.2.1 h.2.2.1 h.2.2.2
theorem c5_9 {α β γ δ ε:Sort _} {A B C D E F H I J:α->β->γ->δ->ε->Prop} {G:Prop} (h:∃ x y z u v,A x y z u v/\B x y z u v/\C x y z u v/\D x y z u v/\E x y z u v/\F x y z u v/\H x y z u v/\I x y z u v/\J x y z u v) (g:∀ x y z u v,A x y z u v->B x y z u v->C x y z u v->D x y z u v->E x y z u v->F x y z u v->H x y z u v->I x y z u v->J x y z u v->G):G:=h.elim λx h=>h.elim λy h=>h.elim λz h=>h.elim λu h=>h.elim λv h=>g x y z u v h.1 h.2.1 h.2.2.1 h.2.2.2.1 h.2.2.2.2.1 h.2.2.2.2.2.1 h.2.2.2.2.2.2.1 h.2.2.2.2.2.2.2.1 h.2.2.2.2.2.2.2.2
theorem c5_10 {α β γ δ ε:Sort _} {A B C D E F H I J K:α->β->γ->δ->ε->Prop} {G:Prop} (h:∃ x y z u v,A x y z u v/\B x y z u v/\C x y z u v/\D x y z u v/\E x y z u v/\F x y z u v/\H x y z u v/\I x y z u v/\J x y z u v/\K x y z u v) (g:∀ x y z u v,A x y z u v->B x y z u v->C x y z u v->D x y z u v->E x y z u v->F x y z u v->H x y z u v->I x y z u v->J x y z u v->K x y z u v->G):G:=h.elim λx h=>h.elim λy h=>h.elim λz h=>h.elim λu h=>h.elim λv h=>g x y z u v h.1 h.2.1 h.2.2.1 h.2.2.2.1 h.2.2.2.2.1 h.2.2.2.2.2.1 h.2.2.2.2.2.2.1 h.2.2.2.2.2.2.2.1 h.2.2.2.2.2.2.2.2.1 h.2.2.2.2.2.2.2.2.2
theorem c8_8 {α β γ δ ε ζ η θ:Sort _} {A B C D E F H I:α->β->γ->δ->ε->ζ->η->θ->Prop} {G:Prop} (h:∃ x y z u v w s t,A x y z u v w s t/\B x y z u v w s t/\C x y z u v w s t/\D x y z u v w s t/\E x y z u v w s t/\F x y z u v w s t/\H x y z u v w s t/\I x y z u v w s t) (g:∀ x y z u v w s t,A x y z u v w s t->B x y z u v w s t->C x y z u v w s t->D x y z u v w s t->E x y z u v w s t->F x y z u v w s t->H x y z u v w s t->I x y z u v w s t->G):G:=h.elim λx h=>h.elim λy h=>h.elim λz h=>h.elim λu h=>h.elim λv h=>h.elim λw h=>h.elim λs h=>h.elim λt h=>g x y z u v w s t h.1 h.2.1 h.2.2.1 h.2.2.2.1 h.2.2.2.2.1 h.2.2.2.2.2.1 h.2.2.2.2.2.2.1 h.2.2.2.2.2.2.2
local macro_rules (kind:=PySem.W.tacticW_cond_) | s=>return LE s
local macro_rules (kind:=PySem.W.tacticW_fin) | s=>return K6 [KB `Nat.lt_of_le_of_lt `Nat.reduceLT,KB `Nat.lt_of_lt_of_le `Nat.reduceLeDiff]
local macro_rules (kind:=PySem.W.tacticW_left) | s=>return DC [eS "(%intros 'intros (null ) )" #[],eS "(%tacticRfl 'rfl )" #[]]
local macro_rules (kind:=PyProof.Rows.tacticCtx_has___) | s=>return K5 s[1][1].getId (eS "(&app Eq.trans (null $0 $1 ) )" #[Kz s[1][0],s[1][1]]) [eS "(PySem.W.tacticW_cond_ 'w_cond hq )" #[]]
local macro_rules (kind:=Lean.Parser.Tactic.show) | s=>return eS "(%refine 'refine (&typeAscription (&hygienicLParen '( (hygieneInfo x ) ) (&syntheticHole '? '_ ) ': (null $0 ) ') ) )" #[s[1]]
local macro_rules (kind:=Lean.Parser.Tactic.cases) | s=>LB s
local macro_rules (kind:=Lean.Parser.Tactic.tacticErw___) | s=>LC s
local macro_rules (kind:=Lean.Parser.Tactic.obtain) | s=>LF s
def bF (h h':Heap):Prop:=∀ b o,h.get? b=some o->h'.get? b=some o
theorem bF.refl (h):bF h h:=λU U e=>e
theorem bF.trans {a b c} (x:bF a b) (y:bF b c):bF a c:=λp o e=>y p o (x p o e)
def Kp (X:List Addr) (h h':Heap):Prop:=∀ b o,b∉X->h.get? b=some o->h'.get? b=some o
theorem Kp.refl (X) (h):Kp X h h:=λU U U e=>e
theorem Kp.trans {X a b c} (x:Kp X a b) (y:Kp X b c):Kp X a c:=λp o n e=>y p o n (x p o n e)
theorem Kp.of_sub {X a b} (x:bF a b):Kp X a b:=λp o U e=>x p o e
theorem Kp.mono {X Y a b} (x:Kp X a b) (h:∀ p∈X,p∈Y):Kp Y a b:=λp o n e=>x p o (λq=>n (h p q)) e
noncomputable def fz (W:Wd) (h:Heap) (μ:List Addr):Heap:=hideAll h (W.T++μ)
theorem bx {W h μ b o}:(fz W h μ).get? b=some o↔(h.get? b=some o/\b∉W.T/\b∉μ):=by
 constructor
 ·intro e
  refine ⟨of_hideAll _ e,λq=>?_,λq=>?_⟩
  ·have:=hideAll_none (W.T++μ) (h:=h) (b:=b) (cY _ q)
   unfold fz at e;rw [this] at e;w_cond e
  ·have:=hideAll_none (W.T++μ) (h:=h) (b:=b) (lR _ q)
   unfold fz at e;rw [this] at e;w_cond e
 ·rintro ⟨e,n1,n2⟩
  exact hideAll_get _ e λq=>(aw q).elim n1 n2
theorem av (W) (h) (μ):bF (fz W h μ) h:=λU U e=>(bx.mp e).1
theorem ax {W h h' μ μ'} (H:∀ b o,b∉W.T->b∉μ->h.get? b=some o->b∉μ'/\h'.get? b=some o):bF (fz W h μ) (fz W h' μ'):=λb o e=>by
 obtain ⟨e1,n1,n2⟩:=bx.mp e
 obtain ⟨m,e2⟩:=H b o n1 n2 e1
 exact bx.mpr ⟨e2,n1,m⟩
theorem bo {h h'} (μ) (k:Kp W.T h h'):bF (fz W h μ) (fz W h' μ):=ax λb o n1 n2 e=>⟨n2,k b o n1 e⟩
theorem aG {h μ μ'} (s:∀ b∈μ',b∈μ):bF (fz W h μ) (fz W h μ'):=ax λb o n1 n2 e=>⟨λq=>n2 (s b q),e⟩
theorem eE {h:Heap} {c P ps} (x:h.TableAt c P ps):h.get? P=some (jI ps):=x.2
def kg (W:Wd) (h:Heap):Prop:=∀ t∈W.tabs,∃ ps,h.IsCode t.1 t.2.1 ps/\h.TableAt t.1 t.2.1 ps/\∀ pos c',codeAmong pos ps.toList=some c'->h.CodeRec c' t.2.2
theorem kg.sub {h h'} (x:kg W h) (k:bF h h'):kg W h':=λt ht=>by
 obtain ⟨ps,a,b,c⟩:=x t ht
 exact ⟨ps,a.keeps k,b.keeps k,λpos c' e=>(c pos c' e).keeps k⟩
theorem kg.fields {W h} (x:kg W h) {b} (hb:b∈W.T):∃ ps,h.get? b=some (jI ps):=by
 obtain ⟨t,ht,rfl⟩:=iW hb
 obtain ⟨ps,_,y,_⟩:=x t ht
 exact ⟨ps,eE y⟩
theorem kg.notin {W h} (x:kg W h) {b o} (e:h.get? b=some o) (hd:∀ vs,o.data≠ .fields vs):b∉W.T:=λq=>by
 obtain ⟨ps,e'⟩:=x.fields q
 erw [e] at e';w_cond e';exact hd _ rfl
structure AJ (W:Wd):Prop where
 tnd:W.T.Nodup
 tG:∀ b∈W.T,W.G.get? b=none
 last:∃ o,W.G.get? (W.G.objs.size - 1)=some o
 sysm:∃ o,W.G.get? sysModules=some o
 nolimit:W.G.NoLimit
 main:W.G.Ns mainGlobals W.mg
 blt:∃ mb,W.G.Ns builtinsNs mb/\∀ x:Str,x≠"__name__"->mb x=bootBuiltins x
 bmod:∃ bm ob,W.mg "__builtins__"=some (.ref bm)/\bm≠builtinsNs/\W.G.get? bm=some ob/\ob.cls= .type "module"/\ob.dict=some builtinsNs/\ob.data= .plain
structure GI (W:Wd) (s:Shared):Prop where
 ok:AJ W
 top:bF W.G s.heap
 tab:kg W s.heap
 bare:AllBare s.gens
theorem GI.size {s} (x:GI W s):W.G.objs.size<=s.heap.objs.size:=by
 obtain ⟨o,e⟩:=x.ok.last
 have h:W.G.objs.size - 1<s.heap.objs.size:=Heap.lt_size (x.top _ _ e)
 w_fin
structure Gr (W:Wd) (s s':Shared):Prop where
 kp:Kp W.T s.heap s'.heap
 gi:GI W s->GI W s'
 gens:∀ (i:Nat) (x:GenState),s.gens[i]? =some x->s'.gens[i]? =some x
 os:s'.os=s.os
 dom:∀ b,s'.heap.get? b=none->s.heap.get? b=none
theorem bF.dom {h h'} (k:bF h h'):∀ b,h'.get? b=none->h.get? b=none:=λb e=>by
 cases q:h.get? b with
 | none=>rfl
 | some o=>erw [k b o q] at e;w_cond e
theorem Gr.refl (W) (s):Gr W s s:=⟨Kp.refl _ _,id,λU U e=>e,rfl,λU e=>e⟩
theorem Gr.trans {a b c} (x:Gr W a b) (y:Gr W b c):Gr W a c:=
 ⟨x.kp.trans y.kp,λg=>y.gi (x.gi g),λi e h=>y.gens i e (x.gens i e h),y.os.trans x.os,λb e=>x.dom b (y.dom b e)⟩
theorem GI.sub {s h' tk} (g:GI W s) (k:bF s.heap h'):GI W { s with heap:=h',toks:=tk }:=
 ⟨g.ok,g.top.trans k,g.tab.sub k,g.bare⟩
theorem Gr.of_sub {s h' tk} (k:bF s.heap h'):Gr W s { s with heap:=h',toks:=tk }:=
 ⟨Kp.of_sub k,λg=>g.sub k,λU U e=>e,rfl,k.dom⟩
theorem Gr.push {s tk} (o):Gr W s { s with heap:=s.heap.push o,toks:=tk }:=Gr.of_sub λU U e=>Heap.get?_push_of_some _ e
theorem Gr.tok {s} (tk):Gr W s { s with toks:=tk }:=Gr.of_sub (bF.refl _)
theorem j5 {h h' p} (hs:Heap.SameBut p h h') (hp:∃ o,h'.get? p=some o):∀ b,h'.get? b=none->h.get? b=none:=λb e=>by
 by_cases q:b=p
 ·subst q
  obtain ⟨o,e'⟩:=hp
  erw [e] at e';w_cond e'
 ·exact (hs.2 b q).symm.trans e
theorem GI.notin {W s} (g:GI W s) {b o} (e:s.heap.get? b=some o) (hd:∀ vs,o.data≠ .fields vs):b∉W.T:=g.tab.notin e hd
theorem GI.fresh {s} (g:GI W s) {b} (e:s.heap.get? b=none):b∉W.T:=λq=>by
 obtain ⟨ps,e'⟩:=g.tab.fields q
 erw [e] at e';w_cond e'
theorem GI.upd {s h' tk} (g:GI W s) {a oa} (ho:s.heap.get? a=some oa) (hd:∀ vs,oa.data≠ .fields vs) (hG:W.G.get? a=none) (hs:Heap.SameBut a s.heap h'):
  GI W { s with heap:=h',toks:=tk }:=by
 have keep:∀ b o,b≠a->s.heap.get? b=some o->h'.get? b=some o:=λb o n e=>(hs.2 b n).trans e
 refine ⟨g.ok,λb o e=>keep b o (by rintro rfl;rw [hG] at e;w_cond e) (g.top b o e),λt ht=>?_,g.bare⟩
 obtain ⟨ps,x,y,z⟩:=g.tab t ht
 have hP:t.2.1≠a:=λq=>by
  have:=eE y
  erw [q,ho] at this;w_cond this;exact hd _ rfl
 have hc:t.1≠a:=λq=>by
  obtain ⟨o,vs,_,_,_,_,_,_,_,_,e1,e2,_⟩:=x
  erw [q,ho] at e1;w_cond e1;exact hd _ e2
 exact ⟨ps,x.extBut hs.extBut hc hP,y.sameBut hs hc hP,λpos c' e=>(z pos c' e).keepsBut keep ho hd⟩
def cf (n:Nat) (A:Around):Prop:=A.handled=none/\A.depth+8 * n<=980/\A.units+100 * n<=9500
theorem cf.hd {n A} (h:cf n A):A.handled=none:=h.1
theorem cf.room {n A} (h:cf n A):A.depth<recursionLimit:=by
 have:=h.2.1;unfold recursionLimit;w_fin
theorem cf.units {n A} (h:cf n A):A.units+300<cLine:=by
 have:=h.2.2;unfold cLine;w_fin
theorem cf.in1 {n A} (h:cf (n+1) A):cf n A.in1:=⟨h.1,by show A.depth+8 * n<=980;have:=h.2.1;w_fin,by show A.units+1+100 * n<=9500;have:=h.2.2;w_fin⟩
theorem cf.deeper {n A} (h:cf (n+1) A) (env):cf n (A.deeper env):=⟨h.1,by show A.depth+1+8 * n<=980;have:=h.2.1;w_fin,by show A.units+3+100 * n<=9500;have:=h.2.2;w_fin⟩
theorem cf.le {m n A} (h:cf n A) (l:m<=n):cf m A:=⟨h.1,by have:=h.2.1;w_fin,by have:=h.2.2;w_fin⟩
theorem l1 {α:Type} {P:List α->Prop} (H:∀ a,P [a]):∀ l:List α,l.length=1->P l:=λl h=>by
 cases l with
 | nil=>exact absurd (show 0=1 from h) (by decide)
 | cons a l=>
  have e:l=[]:=List.length_eq_zero_iff.mp (Nat.succ.inj h)
  erw [e];exact H a
theorem l2 {α:Type} {P:List α->Prop} (H:∀ a b,P [a,b]):∀ l:List α,l.length=2->P l:=λl h=>by
 cases l with
 | nil=>exact absurd (show 0=2 from h) (by decide)
 | cons a l=>exact l1 (P:=λl=>P (a::l)) (H a) l (Nat.succ.inj h)
theorem l3 {α:Type} {P:List α->Prop} (H:∀ a b c,P [a,b,c]):∀ l:List α,l.length=3->P l:=λl h=>by
 cases l with
 | nil=>exact absurd (show 0=3 from h) (by decide)
 | cons a l=>exact l2 (P:=λl=>P (a::l)) (H a) l (Nat.succ.inj h)
theorem l4 {α:Type} {P:List α->Prop} (H:∀ a b c d,P [a,b,c,d]):∀ l:List α,l.length=4->P l:=λl h=>by
 cases l with
 | nil=>exact absurd (show 0=4 from h) (by decide)
 | cons a l=>exact l3 (P:=λl=>P (a::l)) (H a) l (Nat.succ.inj h)
theorem yL {α:Type} {l:List α} (h:l.length=2):∃ a b,l=[a,b]:=l2 (P:=λl=>∃ a b,l=[a,b]) (λa b=>⟨a,b,rfl⟩) l h
theorem HJ {α:Type} {l:List α} (h:l.length=4):∃ a b c d,l=[a,b,c,d]:=l4 (P:=λl=>∃ a b c d,l=[a,b,c,d]) (λa b c d=>⟨a,b,c,d,rfl⟩) l h
noncomputable def be:Nat:=1048576
theorem bj {n} (h:n<=be):n<=sizeLine:=by erw [sizeLine_eq];unfold be at h;w_fin
inductive PV where
 | none
 | bool (b:Bool)
 | int (i:Int)
 | str (l:List Nat)
 | list (xs:List PV)
 | tuple (xs:List PV)
 | dS (ks:List (List Nat)) (vs:List PV)
 | dI (ks:List Int) (vs:List PV)
theorem Lz {P:PV->Prop} (none:P .none) (bool:∀ b,P (.bool b)) (int:∀ i,P (.int i)) (str:∀ l,P (.str l)) (list:∀ xs,P (.list xs)) (tuple:∀ xs,P (.tuple xs)) (dS:∀ ks vs,P (.dS ks vs)) (dI:∀ ks vs,P (.dI ks vs)) (d):P d:=PV.casesOn d none bool int str list tuple dS dI
noncomputable def fG:PV->Option Int
 | .int i=>some i
 | _=>none
noncomputable def vr:PV->Option (List Nat)
 | .str l=>some l
 | _=>none
noncomputable def pA:PV->Option (List PV)
 | .list xs=>some xs
 | _=>none
theorem aJ {d i} (h:fG d=some i):d= .int i:=by
 cases d <;> first | exact congrArg PV.int (Option.some.inj h) | exact nS h
theorem dW {d i} (h:vr d=some i):d= .str i:=by
 cases d <;> first | exact congrArg PV.str (Option.some.inj h) | exact nS h
theorem cO {d i} (h:pA d=some i):d= .list i:=by
 cases d <;> first | exact congrArg PV.list (Option.some.inj h) | exact nS h
noncomputable abbrev bM (l:List Nat):Str:=⟨l.toArray⟩
noncomputable abbrev cj (vs:Array Value) (ep:Nat):Obj:={ cls:= .type "list",data:= .seq vs ep }
noncomputable abbrev kN (vs:Array Value) (ep:Nat):Obj:={ cls:= .type "tuple",data:= .seq vs ep }
mutual
inductive Data (W:Wd) (F:Heap):Value->PV->Prop
 | none:Data W F .none .none
 | bool (b:Bool):Data W F (.bool b) (.bool b)
 | int (i:Int) (t:Tok):Data W F (.int i t) (.int i)
 | str (l:List Nat) (t:Tok):l.length<=be->Data W F (.str (bM l) t) (.str l)
 | list {a:Addr} {vs:List Value} {ep:Nat} {xs:List PV}:F.get? a=some (cj vs.toArray ep)->vs.length<=be->ae W F vs xs->Data W F (.ref a) (.list xs)
 | tuple {a:Addr} {vs:List Value} {ep:Nat} {xs:List PV}:F.get? a=some (kN vs.toArray ep)->vs.length<=be->ae W F vs xs->Data W F (.ref a) (.tuple xs)
 | dS {a:Addr} {kvs:List (Str×Value)} {ep:Nat} {ks:List (List Nat)} {xs:List PV}:F.DictAt (strKind W.prog W.w) a kvs ep->kvs.length<=be->kvs.map (·.1)=ks.map bM->ae W F (kvs.map (·.2)) xs->(∀ k∈ks,k.length<=be)->a≠sysModules->Data W F (.ref a) (.dS ks xs)
 | dI {a:Addr} {kvs:List (Int×Value)} {ep:Nat} {ks:List Int} {xs:List PV}:F.DictAt (intKind W.prog W.w) a kvs ep->kvs.length<=be->kvs.map (·.1)=ks->ae W F (kvs.map (·.2)) xs->a≠sysModules->Data W F (.ref a) (.dI ks xs)
inductive ae (W:Wd) (F:Heap):List Value->List PV->Prop
 | nil:ae W F [] []
 | cons {v:Value} {d:PV} {vs:List Value} {ds:List PV}:Data W F v d->ae W F vs ds->ae W F (v::vs) (d::ds)
end
theorem iy {a b} (h:bM a=bM b):a=b:=by
 have:a.toArray=b.toArray:=congrArg Str.cps h
 simpa using this
section
variable {F F':Heap}
theorem ae.ind {P:List Value->List PV->Prop} (nil:P [] []) (cons:∀ {v d vs ds},Data W F v d->ae W F vs ds->P vs ds->P (v::vs) (d::ds)) {vs ds} (x:ae W F vs ds):P vs ds:=
 ae.rec (motive_1:=λU U U=>True) (motive_2:=λvs ds U=>P vs ds) trivial (λU=>trivial) (λU U=>trivial) (λU U U=>trivial) (λU U U U=>trivial) (λU U U U=>trivial) (λU U U U U U U=>trivial) (λU U U U U U=>trivial) nil (λa b U ih=>cons a b ih) x
theorem Data.sub (k:bF F F') {v d} (x:Data W F v d):Data W F' v d:=
 Data.rec (motive_1:=λv d U=>Data W F' v d) (motive_2:=λvs ds U=>ae W F' vs ds) .none .bool .int .str (λe n U a=> .list (k _ _ e) n a) (λe n U a=> .tuple (k _ _ e) n a) (λe n m U o q a=> .dS (e.keep k) n m a o q) (λe n m U q a=> .dI (e.keep k) n m a q) .nil (λU U a b=> .cons a b) x
theorem ae.sub (k:bF F F') {vs ds} (x:ae W F vs ds):ae W F' vs ds:=ae.ind .nil (λa U ih=> .cons (a.sub k) ih) x
theorem ae.length {vs ds} (x:ae W F vs ds):vs.length=ds.length:=ae.ind (P:=λvs ds=>vs.length=ds.length) rfl (λU U ih=>congrArg Nat.succ ih) x
theorem ae.append {vs us ds es} (x:ae W F vs ds) (y:ae W F us es):ae W F (vs++us) (ds++es):=ae.ind (P:=λvs ds=>ae W F (vs++us) (ds++es)) y (λa U ih=> .cons a ih) x
theorem ae.get {vs ds} (x:ae W F vs ds):∀ {i:Nat} {d:PV},ds[i]? =some d->∃ v,vs[i]? =some v/\Data W F v d:=
 ae.ind (P:=λvs ds=>∀ {i d},ds[i]? =some d->∃ v,vs[i]? =some v/\Data W F v d) (λe=>nS e) (λ{v d vs ds} a _ ih {i d'} e=>by
  cases i with
  | zero=>cases (show some d=some d' from e);exact ⟨v,rfl,a⟩
  | succ i=>exact ih (i:=i) e) x
theorem ae.getV {vs ds} (x:ae W F vs ds):∀ {i:Nat} {v:Value},vs[i]? =some v->∃ d,ds[i]? =some d/\Data W F v d:=
 ae.ind (P:=λvs ds=>∀ {i v},vs[i]? =some v->∃ d,ds[i]? =some d/\Data W F v d) (λe=>nS e) (λ{v d vs ds} a _ ih {i v'} e=>by
  cases i with
  | zero=>cases (show some v=some v' from e);exact ⟨d,rfl,a⟩
  | succ i=>exact ih (i:=i) e) x
theorem ae.take {vs ds} (x:ae W F vs ds):∀ n:Nat,ae W F (vs.take n) (ds.take n):=
 ae.ind (P:=λvs ds=>∀ n,ae W F (vs.take n) (ds.take n)) (λn=>by erw [List.take_nil,List.take_nil];exact .nil) (λa U ih n=>by
  cases n with
  | zero=>exact .nil
  | succ n=>exact .cons a (ih n)) x
theorem ae.drop {vs ds} (x:ae W F vs ds):∀ n:Nat,ae W F (vs.drop n) (ds.drop n):=
 ae.ind (P:=λvs ds=>∀ n,ae W F (vs.drop n) (ds.drop n)) (λn=>by erw [List.drop_nil,List.drop_nil];exact .nil) (λa b ih n=>by
  cases n with
  | zero=>exact .cons a b
  | succ n=>exact ih n) x
theorem ae.cons_inv {vs d ds} (x:ae W F vs (d::ds)):∃ v us,vs=v::us/\Data W F v d/\ae W F us ds:=by
 cases x with | cons a b=>exact ⟨_,_,rfl,a,b⟩
theorem ae.nil_inv {vs} (x:ae W F vs []):vs=[]:=by w_cond x;rfl
theorem ae.snoc {vs ds v d} (x:ae W F vs ds) (y:Data W F v d):ae W F (vs++[v]) (ds++[d]):=x.append (.cons y .nil)
theorem ae.set {vs ds} (x:ae W F vs ds):∀ (n:Nat) {v:Value} {d:PV},Data W F v d->ae W F (vs.set n v) (ds.set n d):=
 ae.ind (P:=λvs ds=>∀ n {v d},Data W F v d->ae W F (vs.set n v) (ds.set n d)) (λn U U U=> .nil) (λa b ih n v d y=>by
  cases n with
  | zero=>exact .cons y b
  | succ n=>exact .cons a (ih n y)) x
theorem ae.of_get {vs ds} (hl:vs.length=ds.length) (h:∀ (i:Nat) (v:Value) (d:PV),vs[i]? =some v->ds[i]? =some d->Data W F v d):ae W F vs ds:=by
 induction vs generalizing ds with
 | nil=>cases ds with
  | nil=>exact .nil
  | cons d ds=>simp at hl
 | cons v vs ih=>cases ds with
  | nil=>simp at hl
  | cons d ds=>exact .cons (h 0 v d (by simp) (by simp)) (ih (by simpa using hl) λi v' d' h1 h2=>h (i+1) v' d' (by simpa using h1) (by simpa using h2))
noncomputable def PV.flat:PV->Bool
 | .none | .bool _ | .int _ | .str _=>true
 | _=>false
theorem Data.flat {v d} (x:Data W F v d) (h:d.flat=true) (F'):Data W F' v d:=by
 cases x with
 | none=>exact .none
 | bool b=>exact .bool b
 | int i t=>exact .int i t
 | str l t n=>exact .str l t n
 | list _ _ _=>w_cond h
 | tuple _ _ _=>w_cond h
 | dS _ _ _ _ _ _=>w_cond h
 | dI _ _ _ _ _=>w_cond h
end
noncomputable def Gc (W:Wd) (s:Shared) (P:Value->Shared->Prop):Result->Shared->Prop:=λres s'=>∃ rv,res= .ok (.ret rv)/\P rv s'/\Gr W s s'
def mL (W:Wd) (F:Heap) (v:Value) (f:List PV->Option PV):Prop:=
 (∃ a o fd,v= .ref a/\F.get? a=some o/\o.data= .func fd)/\∀ (A:Around) (s:Shared) (args:List Value) (ds:List PV) (r:PV),cf 8 A->GI W s->bF F s.heap->ae W s.heap args ds->f ds=some r->r.flat=true->
  codeAny W.M A (.call v ⟨args,[]⟩) (Gc W s λrv s'=>Data W s'.heap rv r) s
theorem mL.sub {F F' v f} (x:mL W F v f) (k:bF F F'):mL W F' v f:=
 ⟨by obtain ⟨a,o,fd,e1,e2,e3⟩:=x.1;exact ⟨a,o,fd,e1,k _ _ e2,e3⟩,λA s args ds r a g h d e fl=>x.2 A s args ds r a g (k.trans h) d e fl⟩
structure Cl where
 cls:Addr
 attr:Str
def eG (W:Wd) (F:Heap) (c:Cl) (v:Value) (d:PV):Prop:=
 ∃ a dA v' o,v= .ref a/\F.get? a=some o/\o.cls= .ref c.cls/\o.dict=some dA/\(∀ k,o.data≠ .cls k)/\F.Ns1 dA (λx=>if x=c.attr then some v' else none)/\dA≠a/\W.G.get? a=none/\W.G.get? dA=none/\Data W F v' d
inductive SV where
 | u
 | d (d:PV)
 | own (d:PV)
 | fn (f:List PV->Option PV)
 | obj (c:Cl) (d:PV)
 | ptr (w:Value) (d:PV)
noncomputable def mQ:Option SV->Option (List PV)
 | some (.own d)=>pA d
 | _=>none
theorem fU {o xs} (h:mQ o=some xs):o=some (.own (.list xs)):=by
 cases o with
 | none=>exact nS h
 | some v=>cases v <;> first | exact congrArg (λd=>some (SV.own d)) (cO h) | exact nS h
noncomputable def dy:Option SV->Option PV
 | some (.d d)=>some d
 | _=>none
theorem c7 {o d} (h:dy o=some d):o=some (.d d):=by
 cases o with
 | none=>exact nS h
 | some v=>cases v <;> first | exact congrArg (λd=>some (SV.d d)) (sI h) | exact nS h
noncomputable def Df:Option SV->Option (List PV->Option PV)
 | some (.fn d)=>some d
 | _=>none
theorem oP {o d} (h:Df o=some d):o=some (.fn d):=by
 cases o with
 | none=>exact nS h
 | some v=>cases v <;> first | exact congrArg (λd=>some (SV.fn d)) (sI h) | exact nS h
noncomputable def FW:Option SV->Option PV
 | some (.own d)=>some d
 | _=>none
theorem uJ {o d} (h:FW o=some d):o=some (.own d):=by
 cases o with
 | none=>exact nS h
 | some v=>cases v <;> first | exact congrArg (λd=>some (SV.own d)) (sI h) | exact nS h
noncomputable def EP:SV->Option SV
 | .own _=>none
 | v=>some v
theorem uD {v w} (h:EP v=some w):v=w/\∀ d,w≠ .own d:=by
 cases v <;> first | exact nS h | exact ⟨sI h,λd q=>by rw [<-sI h] at q;w_cond q⟩
noncomputable def Ie:SV->Option SV
 | .u=>none
 | v=>some v
theorem B4 {v w} (h:Ie v=some w):v=w/\w≠ .u:=by
 cases v <;> first | exact nS h | exact ⟨sI h,λq=>by rw [<-sI h] at q;w_cond q⟩
noncomputable def E4:Option SV->Option (Value×PV)
 | some (.ptr w d)=>some (w,d)
 | _=>none
theorem zD {o p} (h:E4 o=some p):o=some (.ptr p.1 p.2):=by
 cases o with
 | none=>exact nS h
 | some v=>cases v <;> first | exact congrArg (λp:Value×PV=>some (SV.ptr p.1 p.2)) (sI h) | exact nS h
noncomputable def qF (c:Cl) (o:Option SV):Option PV:=match o with
 | some (.obj c' d)=>if c'.cls=c.cls/\c'.attr=c.attr then some d else none
 | _=>none
set_option tactic.hygienic true in
theorem qG {c o d} (h:qF c o=some d):o=some (.obj c d):=by
 cases o with
 | none=>exact nS h
 | some v=>
  cases v <;> first | exact nS h | skip
  obtain ⟨⟨h1,h2⟩,h3⟩:=bI h
  rename_i c' d'
  w_cond c;w_cond c'
  w_cond h1;w_cond h2;w_cond h3;rfl
inductive aB (W:Wd) (h F:Heap) (a:Addr):PV->Prop
 | list {vs:List Value} {ep:Nat} {xs:List PV}:h.get? a=some (cj vs.toArray ep)->vs.length<=be->ae W F vs xs->aB W h F a (.list xs)
 | dS {kvs:List (Str×Value)} {ep:Nat} {ks:List (List Nat)} {xs:List PV}:h.DictAt (strKind W.prog W.w) a kvs ep->kvs.length<=be->kvs.map (·.1)=ks.map bM->ae W F (kvs.map (·.2)) xs->(∀ k∈ks,k.length<=be)->a≠sysModules->aB W h F a (.dS ks xs)
 | dI {kvs:List (Int×Value)} {ep:Nat} {ks:List Int} {xs:List PV}:h.DictAt (intKind W.prog W.w) a kvs ep->kvs.length<=be->kvs.map (·.1)=ks->ae W F (kvs.map (·.2)) xs->a≠sysModules->aB W h F a (.dI ks xs)
theorem Data.intE {F i} {motive:(v:Value)->Data W F v (.int i)->Prop} (mk:∀ (t:Tok),motive (.int i t) (.int i t)) {v} (h):motive v h:=by
 cases (h);exact mk _
theorem Data.boolE {F i} {motive:(v:Value)->Data W F v (.bool i)->Prop} (mk:motive (.bool i) (.bool i)) {v} (h):motive v h:=by
 cases (h);exact mk
theorem Data.noneE {F} {motive:(v:Value)->Data W F v .none->Prop} (mk:motive .none .none) {v} (h):motive v h:=by
 cases (h);exact mk
theorem Data.strE {F l} {motive:(v:Value)->Data W F v (.str l)->Prop} (mk:∀ (t:Tok) (n:l.length<=be),motive (.str (bM l) t) (.str l t n)) {v} (h):motive v h:=by
 cases h with | str l t n=>exact mk t n
theorem Data.listE {F xs} {motive:(v:Value)->Data W F v (.list xs)->Prop} (mk:∀ (a:Addr) (vs:List Value) (ep:Nat) (e:F.get? a=some (cj vs.toArray ep)) (n:vs.length<=be) (b:ae W F vs xs),motive (.ref a) (.list e n b)) {v} (h):motive v h:=by
 cases h with | list e n b=>exact mk _ _ _ e n b
theorem Data.tupleE {F xs} {motive:(v:Value)->Data W F v (.tuple xs)->Prop} (mk:∀ (a:Addr) (vs:List Value) (ep:Nat) (e:F.get? a=some (kN vs.toArray ep)) (n:vs.length<=be) (b:ae W F vs xs),motive (.ref a) (.tuple e n b)) {v} (h):motive v h:=by
 cases h with | tuple e n b=>exact mk _ _ _ e n b
theorem Data.dSE {F ks xs} {motive:(v:Value)->Data W F v (.dS ks xs)->Prop} (mk:∀ (a:Addr) (kvs:List (Str×Value)) (ep:Nat) (e:F.DictAt (strKind W.prog W.w) a kvs ep) (n:kvs.length<=be) (m:kvs.map (·.1)=ks.map bM) (b:ae W F (kvs.map (·.2)) xs) (o:∀ k∈ks,k.length<=be) (q:a≠sysModules),motive (.ref a) (.dS e n m b o q)) {v} (h):motive v h:=by
 cases h with | dS e n m b o q=>exact mk _ _ _ e n m b o q
theorem Data.dIE {F ks xs} {motive:(v:Value)->Data W F v (.dI ks xs)->Prop} (mk:∀ (a:Addr) (kvs:List (Int×Value)) (ep:Nat) (e:F.DictAt (intKind W.prog W.w) a kvs ep) (n:kvs.length<=be) (m:kvs.map (·.1)=ks) (b:ae W F (kvs.map (·.2)) xs) (q:a≠sysModules),motive (.ref a) (.dI e n m b q)) {v} (h):motive v h:=by
 cases h with | dI e n m b q=>exact mk _ _ _ e n m b q
theorem aB.listE {g F a xs} {motive:aB W g F a (.list xs)->Prop} (mk:∀ (vs:List Value) (ep:Nat) (e:g.get? a=some (cj vs.toArray ep)) (n:vs.length<=be) (b:ae W F vs xs),motive (.list e n b)) (h):motive h:=by
 cases h with | list e n b=>exact mk _ _ e n b
theorem aB.dSE {g F a ks xs} {motive:aB W g F a (.dS ks xs)->Prop} (mk:∀ (kvs:List (Str×Value)) (ep:Nat) (e:g.DictAt (strKind W.prog W.w) a kvs ep) (n:kvs.length<=be) (m:kvs.map (·.1)=ks.map bM) (b:ae W F (kvs.map (·.2)) xs) (o:∀ k∈ks,k.length<=be) (q:a≠sysModules),motive (.dS e n m b o q)) (h):motive h:=by
 cases h with | dS e n m b o q=>exact mk _ _ e n m b o q
theorem aB.dIE {g F a ks xs} {motive:aB W g F a (.dI ks xs)->Prop} (mk:∀ (kvs:List (Int×Value)) (ep:Nat) (e:g.DictAt (intKind W.prog W.w) a kvs ep) (n:kvs.length<=be) (m:kvs.map (·.1)=ks) (b:ae W F (kvs.map (·.2)) xs) (q:a≠sysModules),motive (.dI e n m b q)) (h):motive h:=by
 cases h with | dI e n m b q=>exact mk _ _ e n m b q
theorem ae.nilE {F} {motive:(vs:List Value)->ae W F vs []->Prop} (mk:motive [] .nil) {vs} (h):motive vs h:=by
 cases (h);exact mk
theorem ae.consE {F d ds} {motive:(vs:List Value)->ae W F vs (d::ds)->Prop} (mk:∀ (v:Value) (vs:List Value) (a:Data W F v d) (b:ae W F vs ds),motive (v::vs) (.cons a b)) {vs} (h):motive vs h:=by
 cases h with | cons a b=>exact mk _ _ a b
theorem fK {prog w} {K:Type} [DecidableEq K] {knd:KeyKind prog w K} {h h':Heap} {a kvs ep} (x:h.DictAt knd a kvs ep) (e:∀ o,h.get? a=some o->h'.get? a=some o):h'.DictAt knd a kvs ep:=x.at' e
theorem aB.move {h h' F F' a d} (x:aB W h F a d) (e:∀ o,h.get? a=some o->h'.get? a=some o) (k:bF F F'):aB W h' F' a d:=by
 cases x with
 | list g n a=>exact .list (e _ g) n (a.sub k)
 | dS g n m a o q=>exact .dS (fK g e) n m (a.sub k) o q
 | dI g n m a q=>exact .dI (fK g e) n m (a.sub k) q
theorem aB.data {h F a d} (x:aB W h F a d) (k:bF F h):Data W h (.ref a) d:=by
 cases x with
 | list g n b=>exact .list g n (b.sub k)
 | dS g n m b o q=>exact .dS g n m (b.sub k) o q
 | dI g n m b q=>exact .dI g n m (b.sub k) q
theorem aB.ex {h F a d} (x:aB W h F a d):∃ o,h.get? a=some o/\∀ vs,o.data≠ .fields vs:=by
 cases x with
 | list g n b=>exact ⟨_,g,λvs e=>by w_cond e⟩
 | dS g n m b o q=>obtain ⟨o,es,e1,_,e2,_⟩:=g;exact ⟨o,e1,λvs e=>by rw [e2] at e;w_cond e⟩
 | dI g n m b q=>obtain ⟨o,es,e1,_,e2,_⟩:=g;exact ⟨o,e1,λvs e=>by rw [e2] at e;w_cond e⟩
theorem aB.freeze {h F a d} (x:aB W h F a d) (e:∀ o,h.get? a=some o->F.get? a=some o):Data W F (.ref a) d:=by
 cases x with
 | list g n b=>exact .list (e _ g) n b
 | dS g n m b o q=>exact .dS (fK g e) n m b o q
 | dI g n m b q=>exact .dI (fK g e) n m b q
noncomputable def dm (W:Wd) (h:Heap) (μ ν:List Addr) (v:Value):SV->Prop
 | .u=>True
 | .d d=>Data W (fz W h μ) v d
 | .own d=>∃ a,v= .ref a/\aB W h (fz W h μ) a d
 | .fn f=>mL W (fz W h ν) v f
 | .obj c d=>eG W (fz W h μ) c v d
 | .ptr w d=>v=w/\Data W (fz W h μ) v d
theorem eG.sub {F F' c v d} (x:eG W F c v d) (k:bF F F'):eG W F' c v d:=by
 obtain ⟨a,dA,v',o,e,g,h1,h2,h3,n,hne,q1,q2,y⟩:=x
 exact ⟨a,dA,v',o,e,k _ _ g,h1,h2,h3,n.keeps k,hne,q1,q2,y.sub k⟩
structure Mv (W:Wd) (h h':Heap) (μ μ' ν ν':List Addr):Prop where
 d:bF (fz W h μ) (fz W h' μ')
 f:bF (fz W h ν) (fz W h' ν')
theorem dm.move {h h' μ μ' ν ν' v sv} (x:dm W h μ ν v sv) (k:Mv W h h' μ μ' ν ν') (ho:∀ d,sv= .own d->∀ a,v= .ref a->∀ o,h.get? a=some o->(∀ vs,o.data≠ .fields vs)->h'.get? a=some o):dm W h' μ' ν' v sv:=by
 cases sv with
 | u=>trivial
 | d d=>exact Data.sub k.d x
 | fn f=>exact mL.sub x k.f
 | obj c d=>exact eG.sub x k.d
 | ptr a d=>exact ⟨x.1,Data.sub k.d x.2⟩
 | own d=>
  obtain ⟨a,e,c⟩:=x
  refine ⟨a,e,c.move (λo g=>?_) k.d⟩
  obtain ⟨o',e',hd⟩:=c.ex
  erw [g] at e';w_cond e'
  exact ho d rfl a e o g hd
theorem dm.gr {s s' μ ν v sv} (g:GI W s) (x:dm W s.heap μ ν v sv) (k:Gr W s s'):dm W s'.heap μ ν v sv:=
 x.move ⟨bo μ k.kp,bo ν k.kp⟩ λd e a hv o e1 hd=>k.kp _ _ (g.notin e1 hd) e1
structure aN where
 μ:List Addr
 ν:List Addr
noncomputable def yq:NameKind->Bool
 | .cell=>true
 | _=>false
structure FC where
 names:List (Str×NameKind)
 wn:List Str
 lam:Option (Addr×Addr×Str)
 cl:List Bool
 ok:cl=names.map λp=>yq p.2
theorem FC.at {fc:FC} {i:Nat} {z k} (h:fc.names[i]? =some (z,k)):fc.cl[i]? =some (yq k):=by
 rw [fc.ok,gY,h];rfl
noncomputable abbrev aq (B:aN) (κ ω:List Addr):List Addr:=B.μ++(κ++ω)
noncomputable abbrev bw (B:aN) (ω:List Addr):List Addr:=B.ν++ω
noncomputable def EC:Str×NameKind->Bool
 | (_,.local)=>true
 | _=>false
theorem yQ {o} (h:o.any EC=true):∃ y,o=some (y,.local):=by
 cases o with
 | none=>w_cond h
 | some p=>
  obtain ⟨y,k⟩:=p
  cases k <;> first | exact ⟨y,rfl⟩ | w_cond h
noncomputable def kq:NameKind->Bool
 | .local | .cell | .free=>true
 | _=>false
noncomputable def bp (m cm:Str->Option Value):Str×NameKind->Option Value
 | (x,.local)=>m x
 | (x,.cell)=>cm x
 | (x,.free)=>cm x
 | _=>none
structure cx (fc:FC) (env:Env):Prop where
 kind:env.scope.kind= .function
 names:env.scope.names=fc.names
 globals:env.globals=mainGlobals
 builtins:env.builtins=builtinsNs
 lam:∀ t,fc.lam=some t->env.code= .ref t.1/\env.qual++Str.ofString "<lambda>"=t.2.2
def Ex (s:Shared) (μ:List Addr):Prop:=∀ b∈μ,∃ o,s.heap.get? b=some o
def dq (o:Obj):Prop:=∀ vs q t,o.data= .fields vs->vs[1]? ≠some (.str q t)
theorem dq.of {o} (h:∀ vs,o.data≠ .fields vs):dq o:=λvs U U e=>absurd e (h vs)
def iB (s:Shared) (μ:List Addr):Prop:=∀ b∈μ,∃ o,s.heap.get? b=some o/\dq o
theorem iB.ex {s μ} (x:iB s μ):Ex s μ:=λb hb=>let ⟨o,e,_⟩:=x b hb;⟨o,e⟩
theorem dw {s} (g:GI W s) {b} (hb:b∈W.T) {o} (e:s.heap.get? b=some o):dq o:=by
 obtain ⟨t,ht,rfl⟩:=iW hb
 obtain ⟨ps,x,y,_⟩:=g.tab t ht
 have:=eE y
 rw [e] at this;w_cond this
 obtain ⟨o,vs,file,tf,flags,tg,inF,text,tt,op,d1,r1,r2,r3,r4,r5,r6,d2,d3,d4,d5⟩:=x
 rw [e] at d2;w_cond d2;w_cond d3
 intro vs q t h
 w_cond h
 have:=triples_no_str d4 q t
 simpa using this
theorem Ex.gr {s s' μ} (x:Ex s μ) (g:GI W s) (k:Gr W s s'):Ex s' μ:=λb hb=>by
 by_cases hT:b∈W.T
 ·obtain ⟨ps,e⟩:=(k.gi g).tab.fields hT
  exact ⟨_,e⟩
 ·obtain ⟨o,e⟩:=x b hb
  exact ⟨o,k.kp b o hT e⟩
theorem Ex.mono {s μ μ'} (x:Ex s μ) (h:∀ b∈μ',b∈μ):Ex s μ':=λb hb=>x b (h b hb)
structure aR (W:Wd) (fc:FC) (env:Env) (κ:List Addr) (B:aN) (ω:List Addr) (st:List SV) (s:Shared) (m cm:Str->Option Value):Prop where
 gi:GI W s
 eo:cx fc env
 ns:s.heap.Ns env.locals m
 lω:env.locals∈ω
 cells:∀ (x:Str) (c:Addr),env.cells.lookup x=some c->s.heap.IsCell c (cm x)
 inj:∀ (x y:Str) (c:Addr),env.cells.lookup x=some c->env.cells.lookup y=some c->x=y
 cw:∀ x∈fc.wn,∃ c,env.cells.lookup x=some c/\c∈κ
 κc:∀ b∈κ,∃ x,env.cells.lookup x=some b
 νμ:∀ b∈B.ν,b∈B.μ
 cν:∀ (x:Str) (c:Addr),env.cells.lookup x=some c->c∉B.ν
 cω:∀ (x:Str) (c:Addr),env.cells.lookup x=some c->c∉ω
 has:∀ (i:Nat) (x:Str) (k:NameKind),fc.names[i]? =some (x,k)->(k= .cell∨k= .free)->∃ c,env.cells.lookup x=some c
 vars:∀ (i:Nat) (sv:SV),st[i]? =some sv->sv= .u∨∃ xk v,fc.names[i]? =some xk/\kq xk.2=true/\bp m cm xk=some v/\dm W s.heap (aq B κ ω) (bw B ω) v sv
 apart:∀ (i j:Nat) (d d':PV) (xk yk:Str×NameKind) (a:Addr),st[i]? =some (.own d)->st[j]? =some (.own d')->fc.names[i]? =some xk->fc.names[j]? =some yk->bp m cm xk=some (.ref a)->bp m cm yk=some (.ref a)->i=j
 noL:∀ (i:Nat) (d:PV) (xk:Str×NameKind) (a:Addr),st[i]? =some (.own d)->fc.names[i]? =some xk->bp m cm xk=some (.ref a)->a≠env.locals
 oω:∀ (i:Nat) (d:PV) (xk:Str×NameKind) (a:Addr),st[i]? =some (.own d)->fc.names[i]? =some xk->bp m cm xk=some (.ref a)->a∈ω
 dj:∀ b∈ω,b∉B.μ
 nd:(fc.names.map (·.1)).Nodup
 len:st.length=fc.names.length
 ex:Ex s (aq B κ ω)
 nc:∀ b∈bw B ω,∀ o,s.heap.get? b=some o->dq o
 gn:∀ b∈κ++ω,W.G.get? b=none
 hL:W.G.objs.size<=env.locals
def bD (W:Wd) (fc:FC) (env:Env) (κ:List Addr) (B:aN) (ω:List Addr) (st:List SV) (s:Shared):Prop:=∃ m cm,aR W fc env κ B ω st s m cm
theorem aI {h:Heap} {a m} (n:h.Ns a m):∃ o,h.get? a=some o/\∀ vs,o.data≠ .fields vs:=by
 obtain ⟨o,es,ep,e,hd,_⟩:=n
 exact ⟨o,e,λvs q=>by erw [hd] at q;w_cond q⟩
theorem aR.gr {fc:FC} {env:Env} {κ:List Addr} {B:aN} {ω:List Addr} {st:List SV} {s s':Shared} {m cm:Str->Option Value}
  (x:aR W fc env κ B ω st s m cm) (k:Gr W s s'):aR W fc env κ B ω st s' m cm where
 gi:=k.gi x.gi
 eo:=x.eo
 ns:=by
  obtain ⟨o,e,hd⟩:=aI x.ns
  exact x.ns.at' λo' e'=>by rw [e] at e';w_cond e';exact k.kp _ _ (x.gi.notin e hd) e
 lω:=x.lω
 cells:=λy c h=>by
  obtain ⟨o,e,hd⟩:=x.cells y c h
  exact ⟨o,k.kp _ _ (x.gi.notin e λvs q=>by erw [hd] at q;w_cond q) e,hd⟩
 inj:=x.inj
 cw:=x.cw
 κc:=x.κc
 νμ:=x.νμ
 cν:=x.cν
 cω:=x.cω
 has:=x.has
 vars:=λi sv h=>(x.vars i sv h).imp id λ⟨xk,v,a,b,c,d⟩=>⟨xk,v,a,b,c,d.gr x.gi k⟩
 apart:=x.apart
 noL:=x.noL
 oω:=x.oω
 dj:=x.dj
 nd:=x.nd
 len:=x.len
 ex:=x.ex.gr x.gi k
 nc:=λb hb o e=>by
  by_cases hT:b∈W.T
  ·exact dw (k.gi x.gi) hT e
  ·have hb':b∈aq B κ ω:=by
    simp only [bw,aq,List.mem_append] at hb ⊢
    exact hb.imp (x.νμ b) λh=> .inr h
   obtain ⟨o',e'⟩:=x.ex b hb'
   have:=k.kp b o' hT e'
   rw [e] at this;w_cond this
   exact x.nc b hb o e'
 gn:=x.gn
 hL:=x.hL
theorem bD.gr {fc env κ B ω st s s'} (x:bD W fc env κ B ω st s) (k:Gr W s s'):bD W fc env κ B ω st s':=let ⟨m,cm,y⟩:=x;⟨m,cm,y.gr k⟩
theorem aR.more {fc:FC} {env:Env} {κ:List Addr} {B:aN} {ω:List Addr} {st:List SV} {s s':Shared} {m cm:Str->Option Value}
  (x:aR W fc env κ B ω st s m cm) (k:Gr W s s') (as:List Addr) (hf:∀ a∈as,s.heap.get? a=none) (he:iB s' as):aR W fc env κ ⟨as++B.μ,as++B.ν⟩ ω st s' m cm where
 gi:=k.gi x.gi
 eo:=x.eo
 ns:=(x.gr k).ns
 lω:=x.lω
 cells:=(x.gr k).cells
 inj:=x.inj
 cw:=x.cw
 κc:=x.κc
 νμ:=λb hb=>(aw hb).elim (λh=>cY _ h) λh=>lR _ (x.νμ b h)
 cν:=λy c h q=>by
  rcases aw q with q | q
  ·obtain ⟨o,e,_⟩:=x.cells y c h
   rw [hf c q] at e;w_cond e
  ·exact x.cν y c h q
 cω:=x.cω
 has:=x.has
 vars:=λi sv h=>(x.vars i sv h).imp id λ⟨xk,v,a,b,c,d⟩=>⟨xk,v,a,b,c,by
  have nf:∀ b o,s.heap.get? b=some o->b∉as:=λb o e q=>by rw [hf b q] at e;w_cond e
  refine d.move ⟨ax λb o n1 n2 e=>⟨λq=>?_,k.kp b o n1 e⟩,ax λb o n1 n2 e=>⟨λq=>?_,k.kp b o n1 e⟩⟩ λd U a U o e hd=>k.kp _ _ (x.gi.notin e hd) e
  ·simp only [aq,List.mem_append] at q n2
   rcases q with (q | q) | q
   ·exact nf b o e q
   ·exact n2 (.inl q)
   ·exact n2 (.inr q)
  ·simp only [bw,List.mem_append] at q n2
   rcases q with (q | q) | q
   ·exact nf b o e q
   ·exact n2 (.inl q)
   ·exact n2 (.inr q)⟩
 apart:=x.apart
 noL:=x.noL
 oω:=x.oω
 dj:=λb hb q=>by
  rcases aw q with q | q
  ·obtain ⟨o,e⟩:=x.ex b (lR _ (lR _ hb))
   rw [hf b q] at e;w_cond e
  ·exact x.dj b hb q
 nd:=x.nd
 len:=x.len
 ex:=λb hb=>by
  simp only [aq,List.mem_append] at hb
  rcases hb with (hb | hb) | hb
  ·exact he.ex b hb
  ·exact (x.ex.gr x.gi k) b (by simp only [aq,List.mem_append];exact .inl hb)
  ·exact (x.ex.gr x.gi k) b (by simp only [aq,List.mem_append];exact .inr hb)
 nc:=λb hb o e=>by
  simp only [bw,List.mem_append] at hb
  rcases hb with (hb | hb) | hb
  ·obtain ⟨o',e',hn⟩:=he b hb
   rw [e] at e';w_cond e';exact hn
  ·exact (x.gr k).nc b (by simp only [bw,List.mem_append];exact .inl hb) o e
  ·exact (x.gr k).nc b (by simp only [bw,List.mem_append];exact .inr hb) o e
 gn:=x.gn
 hL:=x.hL
theorem bD.more {fc env κ B ω st s s'} (x:bD W fc env κ B ω st s) (k:Gr W s s') (as) (hf:∀ a∈as,s.heap.get? a=none) (he:iB s' as):
  bD W fc env κ ⟨as++B.μ,as++B.ν⟩ ω st s':=let ⟨m,cm,y⟩:=x;⟨m,cm,y.more k as hf he⟩
theorem aR.less {fc env κ B B' ω st s m cm} (x:aR W fc env κ B ω st s m cm) (h1:∀ b∈B'.μ,b∈B.μ) (h2:∀ b∈B'.ν,b∈B.ν) (h3:∀ b∈B'.ν,b∈B'.μ):aR W fc env κ B' ω st s m cm:=by
 have s1:∀ b∈aq B' κ ω,b∈aq B κ ω:=λb hb=>by
  simp only [aq,List.mem_append] at hb ⊢
  exact hb.imp (h1 b) id
 have s2:∀ b∈bw B' ω,b∈bw B ω:=λb hb=>by
  simp only [bw,List.mem_append] at hb ⊢
  exact hb.imp (h2 b) id
 exact { x with
  νμ:=h3
  cν:=λy c h q=>x.cν y c h (h2 c q)
  vars:=λi sv h=>(x.vars i sv h).imp id λ⟨xk,v,a,b,c,d⟩=>⟨xk,v,a,b,c,d.move ⟨aG s1,aG s2⟩ λU U U U U e U=>e⟩
  dj:=λb hb q=>x.dj b hb (h1 b q)
  ex:=x.ex.mono s1
  nc:=λb hb=>x.nc b (s2 b hb) }
theorem bD.less {fc env κ B B' ω st s} (x:bD W fc env κ B ω st s) (h1:∀ b∈B'.μ,b∈B.μ) (h2:∀ b∈B'.ν,b∈B.ν) (h3:∀ b∈B'.ν,b∈B'.μ):bD W fc env κ B' ω st s:=let ⟨m,cm,y⟩:=x;⟨m,cm,y.less h1 h2 h3⟩
theorem bD.νμ {fc env κ B ω st s} (x:bD W fc env κ B ω st s):∀ b∈B.ν,b∈B.μ:=let ⟨_,_,y⟩:=x;y.νμ
theorem bD.ex {fc env κ B ω st s} (x:bD W fc env κ B ω st s):Ex s (aq B κ ω):=let ⟨_,_,y⟩:=x;y.ex
theorem bD.gi {fc env κ B ω st s} (x:bD W fc env κ B ω st s):GI W s:=let ⟨_,_,y⟩:=x;y.gi
abbrev PE (W:Wd) (μ ν:List Addr) (s:Shared) (sv:SV) (v:Value) (s':Shared):Prop:=dm W s'.heap μ ν v sv/\Gr W s s'
abbrev PD (W:Wd) (μ:List Addr) (s:Shared) (d:PV) (v:Value) (s':Shared):Prop:=Data W (fz W s'.heap μ) v d/\Gr W s s'
abbrev Lg (W:Wd) (μ:List Addr) (s:Shared) (ds:List PV) (vs:List Value) (s':Shared):Prop:=ae W (fz W s'.heap μ) vs ds/\Gr W s s'
abbrev PB (W:Wd) (s:Shared) (b b':Bool) (s':Shared):Prop:=b'=b/\Gr W s s'
abbrev PT (W:Wd) (s:Shared) (b:Bool) (v:Value) (s':Shared):Prop:=v= .bool b/\Gr W s s'
abbrev PF (W:Wd) (μ:List Addr) (s:Shared) (d:PV) (v:Value) (s':Shared):Prop:=(∃ a,v= .ref a/\s.heap.get? a=none/\aB W s'.heap (fz W s'.heap (a::μ)) a d)/\Gr W s s'
def SE (W:Wd) (n:Nat) (fc:FC) (e:Expr) (f:List SV->Option SV):Prop:=
 ∀ (A:Around) (env:Env) (κ:List Addr) (B:aN) (ω:List Addr) (st:List SV) (s:Shared) (sv:SV),cf n A->bD W fc env κ B ω st s->f st=some sv->
  wpAny W.M A (eval e env) (PE W (aq B κ ω) (bw B ω) s sv) (λU U=>False) s
def SF (W:Wd) (n:Nat) (fc:FC) (e:Expr) (f:List SV->Option PV):Prop:=
 ∀ (A:Around) (env:Env) (κ:List Addr) (B:aN) (ω:List Addr) (st:List SV) (s:Shared) (d:PV),cf n A->bD W fc env κ B ω st s->f st=some d->
  wpAny W.M A (eval e env) (λv s'=>(∃ a,v= .ref a/\s.heap.get? a=none/\aB W s'.heap (fz W s'.heap (a::aq B κ ω)) a d)/\Gr W s s') (λU U=>False) s
def ST (W:Wd) (n:Nat) (fc:FC) (e:Expr) (f:List SV->Option Bool):Prop:=
 ∀ (A:Around) (env:Env) (κ:List Addr) (B:aN) (ω:List Addr) (st:List SV) (s:Shared) (b:Bool),cf n A->bD W fc env κ B ω st s->f st=some b->
  wpAny W.M A (isTrue e env (eval e env)) (PB W s b) (λU U=>False) s
inductive Fl where
 | next | brk
 | ret (sv:SV)
noncomputable def y6:Option (List SV×Fl)->Option (List SV)
 | some (st,.next)=>some st
 | _=>none
theorem vL {o st} (h:y6 o=some st):o=some (st,.next):=by
 cases o with
 | none=>exact nS h
 | some p=>
  obtain ⟨st',fl⟩:=p
  cases fl <;> first | exact congrArg (λx=>some (x,Fl.next)) (sI h) | exact nS h
structure bR (W:Wd) (κ ω:List Addr) (s s':Shared):Prop where
 kp:Kp (W.T++(κ++ω)) s.heap s'.heap
 gens:∀ (i:Nat) (x:GenState),s.gens[i]? =some x->s'.gens[i]? =some x
 os:s'.os=s.os
 dom:∀ b,s'.heap.get? b=none->s.heap.get? b=none
abbrev PI {α:Type} (W:Wd) (fc:FC) (env:Env) (κ:List Addr) (B:aN) (ω:List Addr) (st:List SV) (s:Shared) (_:α) (s':Shared):Prop:=bD W fc env κ B ω st s'/\bR W κ ω s s'
theorem bR.of_gr {W κ ω s s'} (x:Gr W s s'):bR W κ ω s s':=⟨x.kp.mono λU h=>cY _ h,x.gens,x.os,x.dom⟩
theorem bR.refl (W) (κ ω) (s):bR W κ ω s s:= .of_gr (Gr.refl W s)
def bf (W:Wd) (fc:FC) (env:Env) (κ:List Addr) (B:aN) (ω:List Addr) (s:Shared) (out:List SV×Fl) (fl:Flow) (s':Shared):Prop:=
 bR W κ ω s s'/\match out.2 with
 | .next=>fl= .next/\∃ ω',bD W fc env κ B ω' out.1 s'/\∀ b∈ω',b∈ω∨s.heap.get? b=none
 | .brk=>fl= .brk/\∃ ω',bD W fc env κ B ω' out.1 s'/\∀ b∈ω',b∈ω∨s.heap.get? b=none
 | .ret sv=>∃ v,fl= .ret v/\dm W s'.heap B.μ B.ν v sv/\GI W s'
def SS (W:Wd) (n:Nat) (fc:FC) (b:List Stmt) (f:List SV->Option (List SV×Fl)):Prop:=
 ∀ (A:Around) (env:Env) (κ:List Addr) (B:aN) (ω:List Addr) (st:List SV) (s:Shared) (out:List SV×Fl),cf n A->bD W fc env κ B ω st s->f st=some out->
  wpAny W.M A (execs b env) (bf W fc env κ B ω s out) (λU U=>False) s
def SX (W:Wd) (n:Nat) (fc:FC) (b:Stmt) (f:List SV->Option (List SV×Fl)):Prop:=
 ∀ (A:Around) (env:Env) (κ:List Addr) (B:aN) (ω:List Addr) (st:List SV) (s:Shared) (out:List SV×Fl),cf n A->bD W fc env κ B ω st s->f st=some out->
  wpAny W.M A (exec b env) (bf W fc env κ B ω s out) (λU U=>False) s
noncomputable def qU:SV->Option PV
 | .d d=>some d
 | .own d=>some d
 | .ptr _ d=>some d
 | _=>none
def RV (W:Wd) (h F:Heap) (v:Value) (d:PV):Prop:=Data W F v d∨∃ a,v= .ref a/\aB W h F a d
section
variable {h h' F F':Heap} {v:Value} {d:PV} {s s':Shared} {μ ν:List Addr}
theorem dm.rv {sv} (x:dm W h μ ν v sv) (e:qU sv=some d):RV W h (fz W h μ) v d:=by
 cases sv with
 | u=>w_cond e
 | d d'=>w_cond e;exact .inl x
 | ptr a d'=>w_cond e;exact .inl x.2
 | own d'=>w_cond e;obtain ⟨a,e,c⟩:=x;exact .inr ⟨a,e,c⟩
 | fn f=>w_cond e
 | obj c d'=>w_cond e
theorem RV.data (x:RV W h F v d) (k:bF F h):Data W h v d:=by
 rcases x with x | ⟨a,rfl,c⟩
 ·exact x.sub k
 ·exact c.data k
theorem RV.gr (g:GI W s) (x:RV W s.heap (fz W s.heap μ) v d) (k:Gr W s s'):RV W s'.heap (fz W s'.heap μ) v d:=by
 rcases x with x | ⟨a,rfl,c⟩
 ·exact .inl (x.sub (bo μ k.kp))
 ·refine .inr ⟨a,rfl,c.move (λo e=>?_) (bo μ k.kp)⟩
  obtain ⟨o',e',hd⟩:=c.ex
  erw [e] at e';w_cond e'
  exact k.kp _ _ (g.notin e hd) e
theorem RV.intI {i} (x:RV W h F v (.int i)):∃ t,v= .int i t:=by
 rcases x with x | ⟨a,rfl,c⟩
 ·w_cond x;exact ⟨_,rfl⟩
 ·w_cond c
theorem RV.boolI {b} (x:RV W h F v (.bool b)):v= .bool b:=by
 rcases x with x | ⟨a,rfl,c⟩
 ·w_cond x;rfl
 ·w_cond c
theorem RV.noneI (x:RV W h F v .none):v= .none:=by
 rcases x with x | ⟨a,rfl,c⟩
 ·w_cond x;rfl
 ·w_cond c
theorem RV.strI {l} (x:RV W h F v (.str l)):(∃ t,v= .str (bM l) t)/\l.length<=be:=by
 rcases x with x | ⟨a,rfl,c⟩
 ·cases x using Data.strE with | mk t n=>exact ⟨⟨_,rfl⟩,n⟩
 ·w_cond c
theorem RV.listI {xs} (x:RV W h F v (.list xs)) (k:bF F h):∃ a vs ep,v= .ref a/\h.get? a=some (cj vs.toArray ep)/\vs.length<=be/\ae W F vs xs:=by
 rcases x with x | ⟨a,rfl,c⟩
 ·cases x using Data.listE with | mk _ _ _ e n y=>exact ⟨_,_,_,rfl,k _ _ e,n,y⟩
 ·cases c using aB.listE with | mk _ _ e n y=>exact ⟨_,_,_,rfl,e,n,y⟩
theorem RV.tupleI {xs} (x:RV W h F v (.tuple xs)) (k:bF F h):∃ a vs ep,v= .ref a/\h.get? a=some (kN vs.toArray ep)/\vs.length<=be/\ae W F vs xs:=by
 rcases x with x | ⟨a,rfl,c⟩
 ·cases x using Data.tupleE with | mk _ _ _ e n y=>exact ⟨_,_,_,rfl,k _ _ e,n,y⟩
 ·w_cond c
theorem RV.dSI {ks xs} (x:RV W h F v (.dS ks xs)) (k:bF F h):∃ a kvs ep,v= .ref a/\h.DictAt (strKind W.prog W.w) a kvs ep/\kvs.length<=be/\kvs.map (·.1)=ks.map bM/\ae W F (kvs.map (·.2)) xs/\(∀ k∈ks,k.length<=be)/\a≠sysModules:=by
 rcases x with x | ⟨a,rfl,c⟩
 ·cases x using Data.dSE with | mk _ _ _ e n m y o q=>exact ⟨_,_,_,rfl,e.keep k,n,m,y,o,q⟩
 ·cases c using aB.dSE with | mk _ _ e n m y o q=>exact ⟨_,_,_,rfl,e,n,m,y,o,q⟩
theorem RV.dII {ks xs} (x:RV W h F v (.dI ks xs)) (k:bF F h):∃ a kvs ep,v= .ref a/\h.DictAt (intKind W.prog W.w) a kvs ep/\kvs.length<=be/\kvs.map (·.1)=ks/\ae W F (kvs.map (·.2)) xs/\a≠sysModules:=by
 rcases x with x | ⟨a,rfl,c⟩
 ·cases x using Data.dIE with | mk _ _ _ e n m y q=>exact ⟨_,_,_,rfl,e.keep k,n,m,y,q⟩
 ·cases c using aB.dIE with | mk _ _ e n m y q=>exact ⟨_,_,_,rfl,e,n,m,y,q⟩
theorem aK (h:Heap):h.get? h.objs.size=none:=by
 cases e:h.get? h.objs.size with
 | none=>rfl
 | some o=>exact absurd (Heap.lt_size e) (Nat.lt_irrefl _)
theorem sf {a o} (g:GI W s) (x:Ex s μ) (n:s.heap.get? a=none) (e:h'.get? a=some o):(fz W h' μ).get? a=some o:=
 bx.mpr ⟨e,g.fresh n,λq=>by obtain ⟨o',e'⟩:=x a q;erw [n] at e';w_cond e'⟩
theorem uf (o):bF (fz W s.heap μ) (fz W (s.heap.push o) μ):=bo μ (Kp.of_sub λU U e=>Heap.get?_push_of_some _ e)
theorem gQ {vs ds} (g:GI W s) (x:Ex s μ) (y:ae W (fz W s.heap μ) vs ds) (n:vs.length<=be):
  Data W (fz W (s.heap.push (cj vs.toArray 0)) μ) (.ref s.heap.objs.size) (.list ds):=
 .list (sf g x (aK _) (Heap.get?_push_size _ rfl)) n (y.sub (uf _))
theorem kH {vs ds} (g:GI W s) (x:Ex s μ) (y:ae W (fz W s.heap μ) vs ds) (n:vs.length<=be):
  Data W (fz W (s.heap.push (kN vs.toArray 0)) μ) (.ref s.heap.objs.size) (.tuple ds):=
 .tuple (sf g x (aK _) (Heap.get?_push_size _ rfl)) n (y.sub (uf _))
end
def tj (W:Wd) (t:Value->Value->Sem Value) (f:PV->PV->Option PV):Prop:=
 ∀ (A:Around) (s:Shared) (μ:List Addr) (a b:Value) (da db r:PV),cf 0 A->GI W s->Ex s μ->RV W s.heap (fz W s.heap μ) a da->RV W s.heap (fz W s.heap μ) b db->f da db=some r->
  wpAny W.M A (t a b) (PD W μ s r) (λU U=>False) s
def je (W:Wd) (t:Value->Value->Sem Value) (f:PV->PV->Option Bool):Prop:=
 ∀ (A:Around) (s:Shared) (a b:Value) (da db:PV) (r:Bool) (F:Heap),cf 0 A->GI W s->bF F s.heap->RV W s.heap F a da->RV W s.heap F b db->f da db=some r->
  wpAny W.M A (t a b) (PT W s r) (λU U=>False) s
noncomputable def ei (l:List Nat):Option PV:=if l.length<=be then some (.str l) else none
noncomputable def b9 (l:List PV):Option PV:=if l.length<=be then some (.list l) else none
noncomputable def EX (f:Int->Int->Option PV) (d e:PV):Option PV:=(fG d).bind λa=>(fG e).bind λb=>f a b
noncomputable def zk (d e:PV):Option PV:=match d with
 | .int a=>(fG e).map λb=> .int (a + b)
 | .str a=>(vr e).bind λb=>ei (a++b)
 | .list a=>(pA e).bind λb=>b9 (a++b)
 | _=>none
noncomputable def H7:PV->PV->Option PV:=EX λa b=>some (.int (a - b))
noncomputable def EZ:PV->PV->Option PV:=EX λa b=>if a.natAbs<1073741824∨b.natAbs<1073741824 then some (.int (a * b)) else none
noncomputable def zl:PV->PV->Option PV:=EX λa b=>if 0<b/\b<1073741824 then some (.int (a / b)) else none
noncomputable def vP:PV->PV->Option PV:=EX λa b=>if 0<b/\b<1073741824 then some (.int (a % b)) else none
theorem i0 (a b):bM a++bM b=bM (a++b):=by
 show (⟨a.toArray++b.toArray⟩:Str)=⟨(a++b).toArray⟩
 erw [List.append_toArray]
theorem kw {k} (h:k.natAbs<1073741824):Builtin.Int.intBits k<=64:=intBits_le_64 (by w_fin) (by w_fin)
section
theorem aM:tj W (binaryOp .Add) zk:=by
 intro A s μ a b da db r hA g ex ha hb h
 cases da with
 | int i=>
  obtain ⟨j,e,rfl⟩:=aA h
  obtain rfl:=aJ e
  obtain ⟨t,rfl⟩:=ha.intI
  obtain ⟨u,rfl⟩:=hb.intI
  exact add_int ⟨.int _ _,Gr.tok _⟩
 | str x=>
  obtain ⟨y,e,h⟩:=ah h
  obtain rfl:=dW e
  obtain ⟨hl,h⟩:=bI h
  w_cond h
  obtain ⟨⟨t,rfl⟩,n1⟩:=ha.strI
  obtain ⟨⟨u,rfl⟩,n2⟩:=hb.strI
  refine add_str (λt' tk=>?_) (by simp only [Str.length,List.size_toArray];rw [sizeLine_eq];unfold be at n1 n2;w_fin)
  erw [i0]
  exact ⟨.str _ _ hl,Gr.tok _⟩
 | list x=>
  obtain ⟨y,e,h⟩:=ah h
  obtain rfl:=cO e
  obtain ⟨hl,h⟩:=bI h
  w_cond h
  obtain ⟨p,vs,ep,rfl,e1,n1,d1⟩:=ha.listI (av _ _ _)
  obtain ⟨q,us,eq,rfl,e2,n2,d2⟩:=hb.listI (av _ _ _)
  refine P.add_list e1 e2 ?_ (by simp only [List.size_toArray];rw [sizeLine_eq];unfold be at n1 n2;w_fin)
  erw [List.append_toArray]
  have d:=d1.append d2
  exact ⟨gQ g ex d (d.length ▸ hl),Gr.push _⟩
 | _=>exact nS h
theorem mj {o f} (H:∀ {A:Around} {s:Shared} {i j:Int} {t u:Tok} {r:PV} {Q:Value->Shared->Prop} {E:Value->Shared->Prop},f i j=some r->(∀ v tk,(∀ F,Data W F v r)->Q v { s with toks:=tk })->wpAny W.M A (binaryOp o (.int i t) (.int j u)) Q E s):tj W (binaryOp o) (EX f):=by
 intro A s μ a b da db r hA g ex ha hb h
 obtain ⟨i,e1,h⟩:=ah h
 obtain ⟨j,e2,h⟩:=ah h
 obtain rfl:=aJ e1
 obtain rfl:=aJ e2
 obtain ⟨t,rfl⟩:=ha.intI
 obtain ⟨u,rfl⟩:=hb.intI
 exact H h λv tk d=>⟨d _,Gr.tok _⟩
theorem cD:tj W (binaryOp .Sub) H7:=mj λh q=>by
 w_cond h
 exact sub_int (q _ _ λF=> .int _ _)
theorem fF:tj W (binaryOp .FloorDiv) zl:=mj λh q=>by
 obtain ⟨hl,h⟩:=bI h
 w_cond h
 refine floordiv_int (by w_fin) ?_ (.inl (PyProof.noPylong_small (by w_fin)))
 rw [Int.fdiv_eq_ediv_of_nonneg _ (by w_fin)]
 exact q _ _ λF=> .int _ _
theorem eR:tj W (binaryOp .Mod) vP:=mj λh q=>by
 obtain ⟨hl,h⟩:=bI h
 w_cond h
 refine mod_int (by w_fin) ?_
 rw [Int.fmod_eq_emod_of_nonneg _ (by w_fin)]
 exact q _ _ λF=> .int _ _
theorem EU:tj W (binaryOp .Mult) EZ:=mj λh q=>by
 obtain ⟨hl,h⟩:=bI h
 w_cond h
 exact mul_int (q _ _ λF=> .int _ _) (hl.elim (λhl=>IntMulOk.of_left (kw hl)) λhl=>IntMulOk.of_right (kw hl))
end
noncomputable def cn {α:Type} (l:List α) (n:Nat):Option α:=List.rec (motive:=λU=>Nat->Option α) (λU=>none) (λa U ih n=>Nat.rec (motive:=λU=>Option α) (some a) (λm U=>ih m) n) l n
noncomputable def fV {α:Type} (l:List α) (n:Nat) (v:α):List α:=List.rec (motive:=λU=>Nat->List α) (λU=>[]) (λa l ih n=>Nat.rec (motive:=λU=>List α) (v::l) (λm U=>a::ih m) n) l n
theorem bV {α:Type} (l:List α):∀ n,cn l n=l[n]? :=by
 induction l with
 | nil=>intro n;rfl
 | cons a l ih=>
  intro n
  cases n with
  | zero=>rfl
  | succ n=>exact (ih n).trans (List.getElem?_cons_succ ..).symm
theorem b7 {α:Type} (l:List α) (v:α):∀ n,fV l n v=l.set n v:=by
 induction l with
 | nil=>intro n;rfl
 | cons a l ih=>
  intro n
  cases n with
  | zero=>rfl
  | succ n=>exact congrArg (a::·) (ih n)
noncomputable def rd (st:List SV) (i:Nat):Option SV:=(cn st i).bind Ie
noncomputable def bv (fc:FC) (x:Str) (i:Nat):Bool:=match fc.names[i]? with
 | some (y,k)=>y==x&&kq k&&decide (fc.names.lookup x=some k)&&!(x==("__debug__":Str))&&!(x==("__classdict__":Str))
 | none=>false
section
variable {n:Nat} {fc:FC}
theorem bz {env} (h:cx fc env) (x):env.kindOf x=fc.names.lookup x:=by unfold Env.kindOf;erw [h.names]
theorem cJ {env κ B ω st s y i sv} (x:bD W fc env κ B ω st s) (hv:bv fc y i=true) (hr:rd st i=some sv):
  ∃ v,dm W s.heap (aq B κ ω) (bw B ω) v sv/\∀ (M:Model) (A:Around) (E:Value->Shared->Prop) (Q:Value->Shared->Prop),Q v s->wpAny M A (loadName env y) Q E s:=by
 obtain ⟨m,cm,x⟩:=x
 unfold bv at hv
 cases hn:fc.names[i]? with
 | none=>erw [hn] at hv;w_cond hv
 | some p=>
  obtain ⟨y',k⟩:=p
  rw [hn] at hv
  simp only [Bool.and_eq_true,beq_iff_eq,decide_eq_true_eq,Bool.not_eq_true'] at hv
  obtain ⟨⟨⟨⟨rfl,hk⟩,hl⟩,_⟩,hcd⟩:=hv
  have hs:st[i]? =some sv/\sv≠ .u:=by
   obtain ⟨w,h1,h2⟩:=(ah hr:_)
   rw [bV] at h1
   obtain ⟨e,h3⟩:=B4 h2
   exact ⟨e ▸ h1,h3⟩
  rcases x.vars i sv hs.1 with h | ⟨xk,v,h1,h2,h3,h4⟩
  ·exact absurd h hs.2
  ·rw [hn] at h1;w_cond h1
   refine ⟨v,h4,λM A E Q hq=>?_⟩
   have hko:=(bz x.eo y').trans hl
   cases k with
   | «local»=>exact wpAny_loadName_local x.eo.kind hko x.ns h3 hq
   | cell=>
    obtain ⟨c,hc⟩:=x.has i y' .cell hn (.inl rfl)
    have:=x.cells y' c hc
    have h3:cm y'=some v:=h3
    rw [h3] at this
    exact wpAny_loadName_cell x.eo.kind hko hc this hq
   | free=>
    obtain ⟨c,hc⟩:=x.has i y' .free hn (.inr rfl)
    have:=x.cells y' c hc
    have h3:cm y'=some v:=h3
    rw [h3] at this
    exact wpAny_loadName_free x.eo.kind hko hc this hq hcd
   | globalImplicit=>w_cond hk
   | globalExplicit=>w_cond hk
theorem cM {y i} (hv:bv fc y i=true):(y==("__debug__":Str))=false:=by
 unfold bv at hv
 cases hn:fc.names[i]? with
 | none=>rw [hn] at hv;w_cond hv
 | some p=>
  rw [hn] at hv
  simp only [Bool.and_eq_true,Bool.not_eq_true'] at hv
  exact hv.1.2
theorem ac {y pos} (i) (hv:bv fc y i=true):SE W n fc (.Name y pos) (λst=>rd st i):=by
 intro A env κ B ω st s sv hA x h
 obtain ⟨v,hr,hl⟩:=cJ x hv h
 exact wpAny_Name (hl _ _ _ _ ⟨hr,Gr.refl _ _⟩) (cM hv)
theorem ai {i k pos}:SE W n fc (.Constant (.int i) k pos) (λU=>some (.d (.int i))):=by
 intro A env κ B ω st s sv hA x h
 w_cond h
 exact wpAny_Constant_int ⟨Data.int _ _,Gr.tok _⟩
theorem iO {k pos}:SE W n fc (.Constant .none k pos) (λU=>some (.d .none)):=by
 intro A env κ B ω st s sv hA x h
 w_cond h
 exact wpAny_Constant_none ⟨Data.none,Gr.refl _ _⟩
theorem cX {b k pos}:SE W n fc (.Constant (.bool b) k pos) (λU=>some (.d (.bool b))):=by
 intro A env κ B ω st s sv hA x h
 w_cond h
 exact wpAny_Constant_bool ⟨Data.bool _,Gr.refl _ _⟩
theorem bU {x k pos} (l) (hl:(decide (x=bM l)&&decide (l.length<=be))=true):SE W n fc (.Constant (.str x) k pos) (λU=>some (.d (.str l))):=by
 simp only [Bool.and_eq_true,decide_eq_true_eq] at hl
 obtain ⟨rfl,hn⟩:=hl
 intro A env κ B ω st s sv hA x h
 w_cond h
 exact wpAny_Constant_str ⟨Data.str _ _ hn,Gr.tok _⟩
noncomputable def pe (f:List SV->Option SV) (st:List SV):Option PV:=(f st).bind qU
theorem cr {f st d} (h:pe f st=some d):∃ sv,f st=some sv/\qU sv=some d:=ah h
theorem ao {op fop l r pos fl fr} (ho:tj W (binaryOp op) fop) (hl:SE W n fc l fl) (hr:SE W n fc r fr):
  SE W n fc (.BinOp l op r pos) (λst=>(pe fl st).bind λa=>(pe fr st).bind λb=>(fop a b).map .d):=by
 intro A env κ B ω st s sv hA x h
 obtain ⟨da,h1,h⟩:=ah h
 obtain ⟨db,h2,h⟩:=ah h
 obtain ⟨r',h3,rfl⟩:=(aA h:_)
 obtain ⟨sa,h1,pa⟩:=cr h1
 obtain ⟨sb,h2,pb⟩:=cr h2
 refine wpAny_BinOp (wpAny_mono (hl A env κ B ω st s sa hA x h1) (λa s₁ g₁=>?_) λU U e=>e)
 have x₁:=x.gr g₁.2
 refine wpAny_mono (hr A env κ B ω st s₁ sb hA x₁ h2) (λb s₂ g₂=>?_) λU U e=>e
 have x₂:=x₁.gr g₂.2
 refine wpAny_mono (ho A s₂ _ a b da db r' (hA.le (Nat.zero_le _)) x₂.gi x₂.ex ((g₁.1.rv pa).gr x₁.gi g₂.2) (g₂.1.rv pb) h3) (λv s₃ g₃=>?_) λU U e=>e
 exact ⟨g₃.1,(g₁.2.trans g₂.2).trans g₃.2⟩
noncomputable def sM:PV->Option Bool
 | .bool b=>some b
 | _=>none
theorem zg {A s F v d b} (hv:RV W s.heap F v d) (hF:bF F s.heap) (h:sM d=some b):
  wpAny W.M A (truthy v) (PB W s b) (λU U=>False) s:=by
 cases d with
 | bool c=>cases hv.boolI;w_cond h;exact wpAny_truthy_bool ⟨rfl,Gr.refl _ _⟩
 | _=>exact nS h
theorem dB {e pos f} (hf:SE W n fc e f):
  SE W n fc (.UnaryOp .USub e pos) (λst=>(pe f st).bind λa=>(fG a).map λi=> .d (.int (-i))):=by
 intro A env κ B ω st s sv hA x h
 obtain ⟨da,h1,h⟩:=ah h
 obtain ⟨i,h2,rfl⟩:=(aA h:_)
 obtain rfl:=aJ h2
 obtain ⟨sa,h1,pa⟩:=cr h1
 refine wpAny_UnaryOp (wpAny_mono (hf A env κ B ω st s sa hA x h1) (λa s₁ g₁=>?_) λU U e=>e)
 obtain ⟨t,rfl⟩:=(g₁.1.rv pa).intI
 exact neg_int ⟨Data.int _ _,g₁.2.trans (Gr.tok _)⟩
theorem wG {e f} (hf:SE W n fc e f) (he:∀ env whole,isTrue e env whole=(do let v<-whole;standAt e.pos;holding [v] (truthy v)):=by w_left):
  ST W n fc e (λst=>(pe f st).bind sM):=by
 intro A env κ B ω st s b hA x h
 obtain ⟨da,h1,h⟩:=ah h
 obtain ⟨sa,h1,pa⟩:=cr h1
 refine isTrue_plain (wpAny_mono (hf A env κ B ω st s sa hA x h1) (λa s₁ g₁=>?_) λU U e=>e) (he _ _)
 exact wpAny_mono (zg (g₁.1.rv pa) (av _ _ _) h) (λb s₂ g₂=>⟨g₂.1,g₁.2.trans g₂.2⟩) λU U e=>e
theorem aC {op fop l r pos fl fr} (ho:je W (compareOp op) fop) (hl:SE W n fc l fl) (hr:SE W n fc r fr) (hm:behindInMarks op r=false:=by rfl):
  ST W n fc (.Compare l [op] [r] pos) (λst=>(pe fl st).bind λa=>(pe fr st).bind λb=>fop a b):=by
 intro A env κ B ω st s sv hA x h
 obtain ⟨da,h1,h⟩:=ah h
 obtain ⟨db,h2,h3⟩:=(ah h:_)
 obtain ⟨sa,h1,pa⟩:=cr h1
 obtain ⟨sb,h2,pb⟩:=cr h2
 refine wpAny_isTrue_Compare1 (wpAny_mono (hl A env κ B ω st s sa hA x h1) (λa s₁ g₁=>?_) λU U e=>e) hm
 have x₁:=x.gr g₁.2
 refine wpAny_mono (hr A env κ B ω st s₁ sb hA x₁ h2) (λb s₂ g₂=>?_) λU U e=>e
 have x₂:=x₁.gr g₂.2
 refine wpAny_mono (ho A s₂ a b da db sv _ (hA.le (Nat.zero_le _)) x₂.gi (av _ _ _) ((g₁.1.rv pa).gr x₁.gi g₂.2) (g₂.1.rv pb) h3) (λv s₃ g₃=>?_) λU U e=>e
 obtain ⟨rfl,g₃⟩:=g₃
 exact wpAny_truthy_bool ⟨rfl,(g₁.2.trans g₂.2).trans g₃⟩
theorem mR {op fop l r pos fl fr} (ho:je W (compareOp op) fop) (hl:SE W n fc l fl) (hr:SE W n fc r fr) (hm:behindInMarks op r=false:=by rfl):
  SE W n fc (.Compare l [op] [r] pos) (λst=>(pe fl st).bind λa=>(pe fr st).bind λb=>(fop a b).map λc=> .d (.bool c)):=by
 intro A env κ B ω st s sv hA x h
 obtain ⟨da,h1,h⟩:=ah h
 obtain ⟨db,h2,h⟩:=ah h
 obtain ⟨c,h3,rfl⟩:=(aA h:_)
 obtain ⟨sa,h1,pa⟩:=cr h1
 obtain ⟨sb,h2,pb⟩:=cr h2
 refine wpAny_Compare1 (wpAny_mono (hl A env κ B ω st s sa hA x h1) (λa s₁ g₁=>?_) λU U e=>e) hm
 have x₁:=x.gr g₁.2
 refine wpAny_mono (hr A env κ B ω st s₁ sb hA x₁ h2) (λb s₂ g₂=>?_) λU U e=>e
 have x₂:=x₁.gr g₂.2
 refine wpAny_mono (ho A s₂ a b da db c _ (hA.le (Nat.zero_le _)) x₂.gi (av _ _ _) ((g₁.1.rv pa).gr x₁.gi g₂.2) (g₂.1.rv pb) h3) (λv s₃ g₃=>?_) λU U e=>e
 obtain ⟨rfl,g₃⟩:=g₃
 exact ⟨Data.bool _,(g₁.2.trans g₂.2).trans g₃⟩
theorem AI {o1 o2 p1 p2 a b c pos fa fb fcc} (h1:je W (compareOp o1) p1) (h2:je W (compareOp o2) p2) (ha:SE W n fc a fa) (hb:SE W n fc b fb) (hc:SE W n fc c fcc) (hm:lastMarks [o1,o2] [b,c]=false:=by rfl):
  ST W n fc (.Compare a [o1,o2] [b,c] pos) (λst=>(pe fa st).bind λa=>(pe fb st).bind λb=>(p1 a b).bind λt=>if t then (pe fcc st).bind λc=>p2 b c else some false):=by
 intro A env κ B ω st s sv hA x h
 obtain ⟨da,e1,h⟩:=ah h
 obtain ⟨db,e2,h⟩:=ah h
 obtain ⟨t,e3,h⟩:=ah h
 obtain ⟨sa,e1,pa⟩:=cr e1
 obtain ⟨sb,e2,pb⟩:=cr e2
 refine isTrue_chain (wpAny_mono (ha A env κ B ω st s sa hA x e1) (λa s₁ g₁=>?_) λU U e=>e) hm
 have x₁:=x.gr g₁.2
 refine test_link (wpAny_mono (hb A env κ B ω st s₁ sb hA x₁ e2) (λb s₂ g₂=>?_) λU U e=>e)
 have x₂:=x₁.gr g₂.2
 refine wpAny_mono (h1 A s₂ a b da db t _ (hA.le (Nat.zero_le _)) x₂.gi (av _ _ _) ((g₁.1.rv pa).gr x₁.gi g₂.2) (g₂.1.rv pb) e3) (λv s₃ g₃=>?_) λU U e=>e
 obtain ⟨rfl,gq⟩:=g₃
 have xq:=x₂.gr gq
 refine wpAny_truthy_bool ?_
 cases t with
 | false=>simp only [Bool.false_eq_true,if_false] at h ⊢;w_cond h;exact ⟨rfl,(g₁.2.trans g₂.2).trans gq⟩
 | true=>
  simp only [if_true] at h ⊢
  obtain ⟨dc,e4,e5⟩:=(ah h:_)
  obtain ⟨sc,e4,pc⟩:=cr e4
  refine test_last (wpAny_mono (hc A env κ B ω st _ sc hA xq e4) (λc s₃ g₃=>?_) λU U e=>e)
  have x₃:=xq.gr g₃.2
  refine wpAny_mono (h2 A s₃ b c db dc sv _ (hA.le (Nat.zero_le _)) x₃.gi (av _ _ _) (((g₂.1.rv pb).gr x₂.gi gq).gr xq.gi g₃.2) (g₃.1.rv pc) e5) (λv s₄ g₄=>?_) λU U e=>e
  obtain ⟨rfl,g₄⟩:=g₄
  exact wpAny_truthy_bool ⟨rfl,(((g₁.2.trans g₂.2).trans gq).trans g₃.2).trans g₄⟩
def rE (W:Wd) (n:Nat) (fc:FC) (op:BoolOp) (es:List Expr) (f:List SV->Option Bool):Prop:=
 ∀ (A:Around) (env:Env) (κ:List Addr) (B:aN) (ω:List Addr) (st:List SV) (s:Shared) (b:Bool),cf n A->bD W fc env κ B ω st s->f st=some b->
  wpAny W.M A (allTrue op es env) (PB W s b) (λU U=>False) s
theorem CJ:rE W n fc .And [] (λU=>some true):=by
 intro A env κ B ω st s b hA x h
 w_cond h
 exact wpAny_allTrue_And_nil ⟨rfl,Gr.refl _ _⟩
theorem lm {e es f g} (hf:ST W n fc e f) (hg:rE W n fc .And es g):rE W n fc .And (e::es) (λst=>(f st).bind λb=>if b then g st else some false):=by
 intro A env κ B ω st s b hA x h
 obtain ⟨b',h1,h⟩:=ah h
 refine wpAny_allTrue_And_cons (wpAny_mono (hf A env κ B ω st s b' hA x h1) (λt s₁ g₁=>?_) λU U e=>e)
 obtain ⟨rfl,g₁⟩:=g₁
 cases t with
 | false=>simp only [Bool.false_eq_true,if_false] at h ⊢;w_cond h;exact ⟨rfl,g₁⟩
 | true=>
  simp only [if_true] at h ⊢
  exact wpAny_mono (hg A env κ B ω st s₁ b hA (x.gr g₁) h) (λt s₂ g₂=>⟨g₂.1,g₁.trans g₂.2⟩) λU U e=>e
theorem ke:rE W n fc .Or [] (λU=>some false):=by
 intro A env κ B ω st s b hA x h
 w_cond h
 exact wpAny_allTrue_Or_nil ⟨rfl,Gr.refl _ _⟩
theorem cC {e es f g} (hf:ST W n fc e f) (hg:rE W n fc .Or es g):rE W n fc .Or (e::es) (λst=>(f st).bind λb=>if b then some true else g st):=by
 intro A env κ B ω st s b hA x h
 obtain ⟨b',h1,h⟩:=ah h
 refine wpAny_allTrue_Or_cons (wpAny_mono (hf A env κ B ω st s b' hA x h1) (λt s₁ g₁=>?_) λU U e=>e)
 obtain ⟨rfl,g₁⟩:=g₁
 cases t with
 | true=>simp only [if_true] at h ⊢;w_cond h;exact ⟨rfl,g₁⟩
 | false=>
  simp only [Bool.false_eq_true,if_false] at h ⊢
  exact wpAny_mono (hg A env κ B ω st s₁ b hA (x.gr g₁) h) (λt s₂ g₂=>⟨g₂.1,g₁.trans g₂.2⟩) λU U e=>e
theorem fx {op es pos f} (hf:rE W n fc op es f):ST W n fc (.BoolOp op es pos) f:=by
 intro A env κ B ω st s b hA x h
 exact wpAny_isTrue_BoolOp (hf A env κ B ω st s b hA x h)
theorem wu {t b o pos ft fb fo} (ht:ST W n fc t ft) (hb:SE W n fc b fb) (ho:SE W n fc o fo):
  SE W n fc (.IfExp t b o pos) (λst=>(ft st).bind λc=>if c then fb st else fo st):=by
 intro A env κ B ω st s sv hA x h
 obtain ⟨c,h1,h⟩:=ah h
 refine wpAny_IfExp (wpAny_mono (ht A env κ B ω st s c hA x h1) (λt s₁ g₁=>?_) λU U e=>e)
 obtain ⟨rfl,g₁⟩:=g₁
 cases t with
 | true=>
  simp only [if_true] at h ⊢
  exact wpAny_mono (hb A env κ B ω st s₁ sv hA (x.gr g₁) h) (λv s₂ g₂=>⟨g₂.1,g₁.trans g₂.2⟩) λU U e=>e
 | false=>
  simp only [Bool.false_eq_true,if_false] at h ⊢
  exact wpAny_mono (ho A env κ B ω st s₁ sv hA (x.gr g₁) h) (λv s₂ g₂=>⟨g₂.1,g₁.trans g₂.2⟩) λU U e=>e
end
noncomputable def eO:List (List Nat)->List PV->List Nat->Option PV
 | k::ks,x::xs,y=>if k=y then some x else eO ks xs y
 | _,_,_=>none
theorem l7 {k ks x xs y}:eO (k::ks) (x::xs) y=if k=y then some x else eO ks xs y:=rfl
theorem yV {xs y}:eO [] xs y=none:=rfl
noncomputable def eN:List Int->List PV->Int->Option PV
 | k::ks,x::xs,y=>if k=y then some x else eN ks xs y
 | _,_,_=>none
theorem ju {k ks x xs y}:eN (k::ks) (x::xs) y=if k=y then some x else eN ks xs y:=rfl
theorem yT {xs y}:eN [] xs y=none:=rfl
section
variable {F:Heap}
theorem l8:∀ {kvs:List (Str×Value)} {ks:List (List Nat)} {xs:List PV},kvs.map (·.1)=ks.map bM->ae W F (kvs.map (·.2)) xs->∀ (y:List Nat),
  (∀ d,eO ks xs y=some d->∃ v,valueAt kvs (bM y)=some v/\Data W F v d)/\(eO ks xs y=none->valueAt kvs (bM y)=none):=by
 intro zv
 induction zv with
 | nil=>
  intro zw
  cases zw with
  | nil=>
   intro xs _ hx y
   w_cond hx
   exact ⟨λd h=>by simp [l7,yV] at h,λU=>rfl⟩
  | cons k ks=>
   intro xs h _ y
   simp at h
 | cons zc kvs ih=>
  obtain ⟨k',v⟩:=zc
  intro zw
  cases zw with
  | nil=>
   intro xs h _ y
   simp at h
  | cons k ks=>
   intro xs h hx y
   simp only [List.map_cons,List.cons.injEq] at h
   obtain ⟨rfl,h⟩:=h
   cases hx with
   | cons a b=>
    have ih:=ih h b y
    rw [l7];unfold valueAt
    by_cases e:k=y
    ·subst e
     simp only [if_true,List.find?_cons,decide_true,Option.map_some]
     exact ⟨λd h=>by w_cond h;exact ⟨_,rfl,a⟩,λh=>by w_cond h⟩
    ·have e':¬ (bM k=bM y):=λq=>e (iy q)
     simp only [if_neg e,List.find?_cons,decide_eq_false e']
     exact ih
theorem jv:∀ {kvs:List (Int×Value)} {ks:List Int} {xs:List PV},kvs.map (·.1)=ks->ae W F (kvs.map (·.2)) xs->∀ (y:Int),
  (∀ d,eN ks xs y=some d->∃ v,valueAt kvs y=some v/\Data W F v d)/\(eN ks xs y=none->valueAt kvs y=none):=by
 intro zv
 induction zv with
 | nil=>
  intro zw
  cases zw with
  | nil=>
   intro xs _ hx y
   w_cond hx
   exact ⟨λd h=>by simp [ju,yT] at h,λU=>rfl⟩
  | cons k ks=>
   intro xs h _ y
   simp at h
 | cons zc kvs ih=>
  obtain ⟨k',v⟩:=zc
  intro zw
  cases zw with
  | nil=>
   intro xs h _ y
   simp at h
  | cons k ks=>
   intro xs h hx y
   simp only [List.map_cons,List.cons.injEq] at h
   obtain ⟨rfl,h⟩:=h
   cases hx with
   | cons a b=>
    have ih:=ih h b y
    rw [ju];unfold valueAt
    by_cases e:k'=y
    ·subst e
     simp only [if_true,List.find?_cons,decide_true,Option.map_some]
     exact ⟨λd h=>by w_cond h;exact ⟨_,rfl,a⟩,λh=>by w_cond h⟩
    ·simp only [if_neg e,List.find?_cons,decide_eq_false e]
     exact ih
end
noncomputable def eH:List (Option Bool)->Option Bool
 | []=>some true
 | some a::r=>(eH r).map (a&&·)
 | none::_=>none
theorem og:eH []=some true:=rfl
theorem oh {a r}:eH (some a::r)=(eH r).map (a&&·):=rfl
theorem oj {v0}:eH (none::v0)=none:=rfl
noncomputable def rV:PV->PV->Option Bool
 | .none,.none=>some true
 | .bool a,.bool b=>some (a==b)
 | .int a,.int b=>some (a==b)
 | .str a,.str b=>some (a==b)
 | _,_=>none
noncomputable def gM:Nat->PV->PV->Option Bool
 | k+1,.list xs,.list ys=>if xs.length=ys.length then eH (List.zipWith (gM k) xs ys) else some false
 | k+1,.tuple xs,.tuple ys=>if xs.length=ys.length then eH (List.zipWith (gM k) xs ys) else none
 | _,a,b=>rV a b
theorem t8 {P:PV->PV->Bool->Prop} (n:P .none .none true) (o:∀ a c,P (.bool a) (.bool c) (a==c)) (i:∀ a c,P (.int a) (.int c) (a==c)) (t:∀ a c,P (.str a) (.str c) (a==c)) {d e b} (q:rV d e=some b):P d e b:=by
 cases d with
 | none=>cases e with
  | none=>w_cond q;exact n
  | _=>exact nS q
 | bool a=>cases e with
  | bool c=>w_cond q;exact o a c
  | _=>exact nS q
 | int a=>cases e with
  | int c=>w_cond q;exact i a c
  | _=>exact nS q
 | str a=>cases e with
  | str c=>w_cond q;exact t a c
  | _=>exact nS q
 | _=>exact nS q
theorem Db {k} {P:PV->PV->Bool->Prop} (f:∀ {d e b},rV d e=some b->P d e b) (l:∀ {xs ys b},xs.length=ys.length->eH (List.zipWith (gM k) xs ys)=some b->P (.list xs) (.list ys) b) (l':∀ {xs ys:List PV},xs.length≠ys.length->P (.list xs) (.list ys) false) (t:∀ {xs ys b},xs.length=ys.length->eH (List.zipWith (gM k) xs ys)=some b->P (.tuple xs) (.tuple ys) b) {d e b} (q:gM (k+1) d e=some b):P d e b:=by
 cases d with
 | list xs=>cases e with
  | list ys=>
   by_cases h:xs.length=ys.length
   ·exact l h ((if_pos h).symm.trans q)
   ·cases (if_neg h).symm.trans q;exact l' h
  | _=>exact nS q
 | tuple xs=>cases e with
  | tuple ys=>
   obtain ⟨h,q⟩:=bI q
   exact t h q
  | _=>exact nS q
 | _=>exact f q
theorem wP:∀ {l:List (Option Bool)} {b:Bool},eH l=some b->(∀ (i:Nat) (x:Option Bool),l[i]? =some x->∃ c,x=some c)/\b=(List.range l.length).all λi=>(l[i]?.join).getD false:=by
 intro zv
 induction zv with
 | nil=>intro b h;simp [og,oh,oj] at h;subst h;exact ⟨λi x e=>by simp at e,by simp⟩
 | cons zo r ih=>
  intro b h
  cases zo with
  | none=>exact nS h
  | some a=>
   simp only [og,oh,oj,Option.map_eq_some_iff] at h
   obtain ⟨c,h1,rfl⟩:=h
   obtain ⟨h2,h3⟩:=ih h1
   refine ⟨λi x e=>?_,?_⟩
   ·cases i with
    | zero=>simp at e;subst e;exact ⟨_,rfl⟩
    | succ i=>simp at e;exact h2 i x e
   ·rw [List.length_cons,List.range_succ_eq_map,List.all_cons,List.all_map]
    simp [h3,Function.comp_def]
theorem mT:∀ {l:List (Option Bool)} {b:Bool},eH l=some b->(∀ x∈l,∀ c,x=some c->c=true)->b=true:=by
 intro zv
 induction zv with
 | nil=>exact λh U=>(sI h).symm
 | cons zo r ih=>
  intro b h H
  cases zo with
  | none=>exact nS h
  | some a=>
   simp only [og,oh,oj,Option.map_eq_some_iff] at h
   obtain ⟨c,h1,rfl⟩:=h
   erw [H _ List.mem_cons_self a rfl,ih h1 λx hx=>H x (List.mem_cons_of_mem _ hx)];rfl
section
variable {h:Heap}
theorem m4 {k} (ih:∀ {d e:PV} {b:Bool} {v:Value},gM k d e=some b->Data W h v d->Data W h v e->b=true) {vs ds es} (x:ae W h vs ds):ae W h vs es->∀ x∈List.zipWith (gM k) ds es,∀ c,x=some c->c=true:=by
 revert es
 refine ae.ind (P:=λvs ds=>∀ {es},ae W h vs es->∀ x∈List.zipWith (gM k) ds es,∀ c,x=some c->c=true) (λU x hx=>mN hx) (λ{v d vs ds} a r ih2 es y x hx c hc=>?_) x
 cases es with
 | nil=>exact mN hx
 | cons e es=>
  obtain ⟨u,us,q,a',r'⟩:=y.cons_inv
  w_cond q
  rcases aX hx with rfl | hx
  ·exact ih hc a a'
  ·exact ih2 r' x hx c hc
theorem uU (l l'):(bM l==bM l')=(l==l'):=by
 by_cases hh:l=l'
 ·subst hh;rw [beq_self_eq_true,beq_self_eq_true]
 ·rw [beq_eq_false_iff_ne.mpr hh,beq_eq_false_iff_ne.mpr λq=>hh (iy q)]
theorem qc {d e b v} (q:rV d e=some b) (x:Data W h v d) (y:Data W h v e):b=true:=by
 refine t8 (P:=λd e b=>Data W h v d->Data W h v e->b=true) (λU U=>rfl) (λa c x y=>?_) (λa c x y=>?_) (λa c x y=>?_) q x y
 ·exact beq_iff_eq.mpr (Value.bool.inj ((RV.boolI (h:=h) (.inl x)).symm.trans (RV.boolI (h:=h) (.inl y))))
 ·obtain ⟨t,e1⟩:=RV.intI (h:=h) (.inl x)
  obtain ⟨u,e2⟩:=RV.intI (h:=h) (.inl y)
  exact beq_iff_eq.mpr (Value.int.inj (e1.symm.trans e2)).1
 ·obtain ⟨⟨t,e1⟩,_⟩:=RV.strI (h:=h) (.inl x)
  obtain ⟨⟨u,e2⟩,_⟩:=RV.strI (h:=h) (.inl y)
  exact beq_iff_eq.mpr (iy (Value.str.inj (e1.symm.trans e2)).1)
theorem eM {o} {vs us:List Value} {m n} (a:o=some (cj vs.toArray m)) (b:o=some (cj us.toArray n)):vs=us:=by
 have:=a.symm.trans b
 w_cond this;rfl
theorem rm {o} {vs us:List Value} {m n} (a:o=some (kN vs.toArray m)) (b:o=some (kN us.toArray n)):vs=us:=by
 have:=a.symm.trans b
 w_cond this;rfl
theorem Data.lI {v xs} (x:Data W h v (.list xs)):∃ a vs ep,v= .ref a/\h.get? a=some (cj vs.toArray ep)/\vs.length<=be/\ae W h vs xs:=RV.listI (.inl x) (bF.refl _)
theorem Data.tI {v xs} (x:Data W h v (.tuple xs)):∃ a vs ep,v= .ref a/\h.get? a=some (kN vs.toArray ep)/\vs.length<=be/\ae W h vs xs:=RV.tupleI (.inl x) (bF.refl _)
theorem qd:∀ {k:Nat} {d e:PV} {b:Bool} {v:Value},gM k d e=some b->Data W h v d->Data W h v e->b=true:=by
 intro k
 induction k with
 | zero=>intro d e b v q x y;exact qc q x y
 | succ k ih=>
  intro d e b v q
  refine Db (P:=λd e b=>Data W h v d->Data W h v e->b=true) (λq=>qc q) (λhl q x y=>?_) (λhl x y=>?_) (λhl q x y=>?_) q
  ·obtain ⟨a,vs,ep,rfl,g,_,r⟩:=x.lI
   obtain ⟨a',us,ep',e,g',_,r'⟩:=y.lI
   w_cond e
   obtain rfl:=eM g g'
   exact mT q (m4 ih r r')
  ·obtain ⟨a,vs,ep,rfl,g,_,r⟩:=x.lI
   obtain ⟨a',us,ep',e,g',_,r'⟩:=y.lI
   w_cond e
   obtain rfl:=eM g g'
   exact absurd (r.length.symm.trans r'.length) hl
  ·obtain ⟨a,vs,ep,rfl,g,_,r⟩:=x.tI
   obtain ⟨a',us,ep',e,g',_,r'⟩:=y.tI
   w_cond e
   obtain rfl:=rm g g'
   exact mT q (m4 ih r r')
theorem rW {s A d e b v u} (q:rV d e=some b) (x:Data W s.heap v d) (y:Data W s.heap u e):SeqAt.EqAt A s v u b:=by
 refine t8 (P:=λd e b=>Data W s.heap v d->Data W s.heap u e->SeqAt.EqAt A s v u b) (λx y=>?_) (λa c x y=>?_) (λa c x y=>?_) (λa c x y=>?_) q x y
 ·erw [RV.noneI (h:=s.heap) (.inl x),RV.noneI (h:=s.heap) (.inl y)];exact SeqAt.EqAt.same _
 ·erw [RV.boolI (h:=s.heap) (.inl x),RV.boolI (h:=s.heap) (.inl y)];exact keq_flat (PyProof.V.Flat.bool a) (PyProof.V.Flat.bool c)
 ·obtain ⟨t,rfl⟩:=RV.intI (h:=s.heap) (.inl x)
  obtain ⟨t',rfl⟩:=RV.intI (h:=s.heap) (.inl y)
  exact keq_flat (PyProof.V.Flat.int a t) (PyProof.V.Flat.int c t')
 ·obtain ⟨⟨t,rfl⟩,_⟩:=RV.strI (h:=s.heap) (.inl x)
  obtain ⟨⟨t',rfl⟩,_⟩:=RV.strI (h:=s.heap) (.inl y)
  have:=keq_flat (A:=A) (s:=s) (PyProof.V.Flat.str (bM a) t) (PyProof.V.Flat.str (bM c) t')
  have e:PyData.eqv (.str (bM a)) (.str (bM c))=(a==c):=uU a c
  rwa [e] at this
theorem ta {s:Shared} {A:Around} {k vs us ds es b} (ih:∀ {d e:PV} {b:Bool} {v u:Value},gM k d e=some b->Data W s.heap v d->Data W s.heap u e->SeqAt.EqAt A.in1 s v u b) (x:ae W s.heap vs ds) (y:ae W s.heap us es) (q:eH (List.zipWith (gM k) ds es)=some b) (hl:ds.length=es.length):
  ∃ e:Nat->Bool,(∀ (j:Nat) (h1:j<vs.toArray.size) (h2:j<us.toArray.size),SeqAt.EqAt A.in1 s vs.toArray[j] us.toArray[j] (e j))/\b=(List.range vs.toArray.size).all e:=by
 obtain ⟨h1,h2⟩:=wP q
 refine ⟨λi=>((List.zipWith (gM k) ds es)[i]?.join).getD false,λj a c=>?_,?_⟩
 ·simp only [List.size_toArray] at a c
  obtain ⟨d,e1,dd⟩:=x.getV (i:=j) (v:=vs[j]) (by simp [a])
  obtain ⟨e,e2,de⟩:=y.getV (i:=j) (v:=us[j]) (by simp [c])
  have hz:(List.zipWith (gM k) ds es)[j]? =some (gM k d e):=by rw [List.getElem?_zipWith,e1,e2]
  obtain ⟨c',hc⟩:=h1 j _ hz
  simp only [hz,Option.join_some,hc,Option.getD_some]
  exact ih hc dd de
 ·rw [h2]
  congr 2
  erw [List.length_zipWith,List.size_toArray,x.length];w_fin
theorem oN {s}:∀ {k:Nat} {A:Around} {d e:PV} {b:Bool} {v u:Value},A.units + k<cLine->gM k d e=some b->Data W s.heap v d->Data W s.heap u e->SeqAt.EqAt A s v u b:=by
 intro k
 induction k with
 | zero=>intro A d e b v u hA q x y;exact rW q x y
 | succ k ih=>
  intro A d e b v u hA q x y
  have hA1:A.in1.units + k<cLine:=by show A.units+1 + k<cLine;w_fin
  have hu:A.units<cLine:=by w_fin
  by_cases hv:v=u
  ·subst hv
   obtain rfl:=qd q x y
   exact SeqAt.EqAt.same _
  revert x y
  refine Db (P:=λd e b=>Data W s.heap v d->Data W s.heap u e->SeqAt.EqAt A s v u b) (λq=>rW q) (λhl q x y=>?_) (λhl x y=>?_) (λhl q x y=>?_) q
  ·obtain ⟨p,vs,ep,rfl,g,_,a⟩:=x.lI
   obtain ⟨p',us,ep',rfl,g',_,a'⟩:=y.lI
   obtain ⟨e,h1,h2⟩:=ta (A:=A) (λq x y=>ih hA1 q x y) a a' q hl
   refine SeqAt.EqAt.of_refs (λq=>hv (congrArg Value.ref q)) ?_
   erw [h2]
   exact SeqAt.RcAt.lists ⟨_,g,rfl,_,rfl⟩ ⟨_,g',rfl,_,rfl⟩ (by simp only [List.size_toArray];rw [a.length,a'.length];exact hl) hu h1
  ·obtain ⟨p,vs,ep,rfl,g,_,a⟩:=x.lI
   obtain ⟨p',us,ep',rfl,g',_,a'⟩:=y.lI
   exact SeqAt.EqAt.of_refs (λq=>hv (congrArg Value.ref q)) (SeqAt.RcAt.lists_lengths ⟨_,g,rfl,_,rfl⟩ ⟨_,g',rfl,_,rfl⟩ (by simp only [List.size_toArray,bne_iff_ne,ne_eq];erw [a.length,a'.length];exact hl) hu)
  ·obtain ⟨p,vs,ep,rfl,g,_,a⟩:=x.tI
   obtain ⟨p',us,ep',rfl,g',_,a'⟩:=y.tI
   obtain ⟨e,h1,h2⟩:=ta (A:=A) (λq x y=>ih hA1 q x y) a a' q hl
   have hs:vs.toArray.size=us.toArray.size:=by simp only [List.size_toArray];rw [a.length,a'.length];exact hl
   have:=SeqAt.RcAt.tuples ⟨_,g,rfl,_,rfl⟩ ⟨_,g',rfl,_,rfl⟩ hu h1
   rw [hs,Nat.min_self,beq_self_eq_true,Bool.and_true,<-hs,<-h2] at this
   exact SeqAt.EqAt.of_refs (λq=>hv (congrArg Value.ref q)) this
end
noncomputable def gW {L:Type} (lk:L->Option PV):List L->List PV->Option Bool
 | k::ks,x::xs=>match lk k with
  | none=>some false
  | some y=>(gM 4 x y).bind λa=>(gW lk ks xs).map (a&&·)
 | [],[]=>some true
 | _,_=>none
theorem lV {L:Type} {lk:L->Option PV} {k ks x xs}:gW lk (k::ks) (x::xs)=(match lk k with
  | none=>some false
  | some y=>(gM 4 x y).bind λa=>(gW lk ks xs).map (a&&·)):=rfl
theorem qm {L:Type} {lk:L->Option PV}:gW lk [] []=some true:=rfl
noncomputable def rU (d e:PV):Option Bool:=match d with
 | .dS ks xs=>(match e with
  | .dS ls ys=>if ks.length=ls.length then gW (eO ls ys) ks xs else some false
  | _=>none)
 | .dI ks xs=>(match e with
  | .dI ls ys=>if ks.length=ls.length then gW (eN ls ys) ks xs else some false
  | _=>none)
 | _=>none
section
variable {F:Heap} {A:Around} {s:Shared}
def DL {K L:Type} [DecidableEq K] (h:Heap) (em:L->K) (kb:List (K×Value)) (lk:L->Option PV):Prop:=∀ k,(∀ d,lk k=some d->∃ v,valueAt kb (em k)=some v/\Data W h v d)/\(lk k=none->valueAt kb (em k)=none)
theorem Data.dSI {h v ks xs} (x:Data W h v (.dS ks xs)):∃ a kvs ep,v= .ref a/\h.DictAt (strKind W.prog W.w) a kvs ep/\kvs.length<=be/\kvs.map (·.1)=ks.map bM/\ae W h (kvs.map (·.2)) xs/\(∀ k∈ks,k.length<=be)/\a≠sysModules:=
 RV.dSI (.inl x) (bF.refl _)
structure Li {K L:Type} [DecidableEq K] (h:Heap) (v u:Value) (b:Bool) (knd:KeyKind W.prog W.w K) (em:L->K) (ks ls:List L) (xs:List PV) (lk:L->Option PV) (a c:Addr) (ka kb:List (K×Value)) (ep eq:Nat):Prop where
 v:v= .ref a
 u:u= .ref c
 ha:h.DictAt knd a ka ep
 hb:h.DictAt knd c kb eq
 hm:ka.map (·.1)=ks.map em
 hn:kb.map (·.1)=ls.map em
 da:ae W h (ka.map (·.2)) xs
 hl:DL h em kb lk
 sa:a≠sysModules
 sb:c≠sysModules
 q:(if ks.length=ls.length then gW lk ks xs else some false)=some b
theorem xD {h v u d e b} {P:Prop} (q:rU d e=some b) (x:Data W h v d) (y:Data W h u e)
  (H:∀ {K L:Type} [DecidableEq K] {knd:KeyKind W.prog W.w K} {em:L->K} {ks ls xs lk a c ka kb ep eq},Li h v u b knd em ks ls xs lk a c ka kb ep eq->P):P:=by
 cases d with
 | dS ks xs=>cases e with
  | dS ls ys=>
   obtain ⟨a,ka,ep,e1,ha,_,hm,da,_,sa⟩:=x.dSI
   obtain ⟨c,kb,eq,e2,hb,_,hn,db,_,sb⟩:=y.dSI
   exact H ⟨e1,e2,ha,hb,hm,hn,da,l8 hn db,sa,sb,q⟩
  | _=>exact nS q
 | dI ks xs=>cases e with
  | dI ls ys=>
   obtain ⟨a,ka,ep,e1,ha,_,hm,da,sa⟩:=RV.dII (.inl x) (bF.refl _)
   obtain ⟨c,kb,eq,e2,hb,_,hn,db,sb⟩:=RV.dII (.inl y) (bF.refl _)
   exact H (em:=id) ⟨e1,e2,ha,hb,hm.trans (List.map_id _).symm,hn.trans (List.map_id _).symm,da,jv hn db,sa,sb,q⟩
  | _=>exact nS q
 | _=>exact nS q
set_option tactic.hygienic true in
theorem HH {K L:Type} [DecidableEq K] {em:L->K} {kb:List (K×Value)} {lk:L->Option PV} (hl:DL s.heap em kb lk) (hA:A.units+4<cLine):
  ∀ {ka:List (K×Value)} {ks:List L} {xs:List PV} {b:Bool},ka.map (·.1)=ks.map em->ae W s.heap (ka.map (·.2)) xs->gW lk ks xs=some b->KeqHits A s kb ka b:=by
 intro zv
 induction zv with
 | nil=>
  intro zw
  cases zw with
  | nil=>
   intro xs b _ hx h
   w_cond hx;simp [qm] at h;subst h;exact .nil
  | cons k ks=>
   intro xs b e _ h
   simp at e
 | cons zc ka ih=>
  obtain ⟨k',v⟩:=zc
  intro zw
  cases zw with
  | nil=>
   intro xs b e _ h
   simp at e
  | cons k ks=>
   intro xs b e hx h
   simp only [List.map_cons,List.cons.injEq] at e
   obtain ⟨rfl,e⟩:=e
   cases hx with
   | cons a r=>
    rename_i d ds
    have lq:=hl k
    simp only [lV] at h
    cases hq:lk k with
    | none=>rw [hq] at h;w_cond h;exact .miss (lq.2 hq)
    | some y=>
     rw [hq] at h
     obtain ⟨c,h1,h2⟩:=(ah h:_)
     obtain ⟨c',h3,rfl⟩:=(aA h2:_)
     obtain ⟨u,e1,e2⟩:=lq.1 y hq
     exact .hit e1 (oN hA h1 a e2) (ih e r h3)
theorem oK {d e b v u E} (hA:A.units+5<cLine) (q:rU d e=some b) (x:Data W s.heap v d) (y:Data W s.heap u e):
  (∀ Q:Value->Shared->Prop,Q (.bool b) s->wpAny W.M A (compareOp .Eq v u) Q E s)/\(∀ Q:Value->Shared->Prop,Q (.bool (!b)) s->wpAny W.M A (compareOp .NotEq v u) Q E s):=by
 have hu:A.units<cLine:=by w_fin
 have hA1:A.in1.units+4<cLine:=by show A.units+1+4<cLine;w_fin
 refine xD q x y ?_
 intro K L _ knd em ks ls xs lk a c ka kb ep eq T
 obtain ⟨rfl,rfl,ha,hb,hm,hn,da,hk,sa,sb,q⟩:=T
 have l1:ka.length=ks.length:=by have:=congrArg List.length hm;simpa using this
 have l2:kb.length=ls.length:=by have:=congrArg List.length hn;simpa using this
 obtain ⟨r,hits,e⟩:∃ r,(ka.length=kb.length->KeqHits A.in1 s kb ka r)/\(ka.length==kb.length&&r)=b:=by
  by_cases hl:ks.length=ls.length
  ·refine ⟨b,λU=>HH (A:=A.in1) hk hA1 hm da ((if_pos hl).symm.trans q),?_⟩
   rw [l1,l2,hl,beq_self_eq_true,Bool.true_and]
  ·cases (if_neg hl).symm.trans q
   exact ⟨true,λhh=>absurd (l1.symm.trans (hh.trans l2)) hl,by rw [l1,l2,beq_eq_false_iff_ne.mpr hl];rfl⟩
 exact ⟨λQ h=>keq_eq (by simpa using sa) (by simpa using sb) ha.dictOf hb.dictOf hu hits (by rw [e];exact h),λQ h=>keq_ne (by simpa using sa) (by simpa using sb) ha.dictOf hb.dictOf hu hits (by rw [e];exact h)⟩
def AC (W:Wd) (A:Around) (s:Shared) (v u:Value) (b:Bool):Prop:=∀ (E:Value->Shared->Prop) (Q:Bool->Shared->Prop),Q b s->wpAny W.M A (eqBool v u) Q E s
theorem AC.of_at {v u b} (h:SeqAt.EqAt A s v u b):AC W A s v u b:=λE Q q=>h _ _ E Q q
theorem AC.of_eq {a c b} (hne:a≠c) (h:∀ (E:Value->Shared->Prop) (Q:Value->Shared->Prop),Q (.bool b) s->wpAny W.M A (richCompare .Eq (.ref a) (.ref c)) Q E s):AC W A s (.ref a) (.ref c) b:=λE Q q=>by
 unfold eqBool
 refine wpAny_holding ?_
 refine wpAny_ite_split (λhab=>absurd (by have:=eq_of_beq hab;injection this) hne) (λU=>?_)
 exact wpAny_bind (h E _ (wpAny_truthy_bool q))
theorem si {h:Heap} {K L:Type} [DecidableEq K] {em:L->K} {kvs:List (K×Value)} {lk:L->Option PV} (nd:(kvs.map (·.1)).Nodup) (hl:DL h em kvs lk):∀ {ks:List L} {xs:List PV} {b:Bool} {kv2:List (K×Value)},(∀ p∈kv2,p∈kvs)->kv2.map (·.1)=ks.map em->ae W h (kv2.map (·.2)) xs->
  gW lk ks xs=some b->b=true:=by
 intro zv
 induction zv with
 | nil=>
  intro xs b kv2 _ e1 d1 q
  have:kv2=[]:=by simpa using e1
  subst this;w_cond d1;simp [qm] at q;exact q.symm ▸ rfl
 | cons k ks ih=>
  intro xs b zw
  cases zw with
  | nil=>
   intro _ e1 _ q
   simp at e1
  | cons zd kv2=>
   obtain ⟨k',v⟩:=zd
   intro hs e1 d1 q
   simp only [List.map_cons,List.cons.injEq] at e1
   obtain ⟨rfl,e1⟩:=e1
   cases d1 with
   | cons a r=>
    have lq:=hl k
    simp only [lV] at q
    have hv:valueAt kvs (em k)=some v:=by
     obtain ⟨i,hi,hx⟩:=List.getElem_of_mem (hs _ List.mem_cons_self)
     exact valueAt_of_get nd (i:=i) (by rw [List.getElem?_eq_getElem hi,hx])
    cases hq:lk k with
    | none=>rw [lq.2 hq] at hv;w_cond hv
    | some y=>
     rw [hq] at q
     obtain ⟨c,h1,h2⟩:=(ah q:_)
     obtain ⟨c',h3,rfl⟩:=(aA h2:_)
     obtain ⟨u,f1,f2⟩:=lq.1 y hq
     rw [hv] at f1;w_cond f1
     rw [qd h1 a f2,ih (λp hp=>hs p (List.mem_cons_of_mem _ hp)) e1 r h3];rfl
theorem vn {prog w} {K:Type} [DecidableEq K] {knd:PySem.KeyKind prog w K} {es}:∀ {k1 k2:List (K×Value)},Pairs knd es k1->Pairs knd es k2->k1=k2:=by
 induction es with
 | nil=>intro k1 k2 x y;w_cond x;w_cond y;rfl
 | cons e es ih=>
  intro k1 k2 x y
  rcases x with _ | ⟨a,b,c⟩
  rcases y with _ | ⟨a',b',c'⟩
  rw [ih c c',Prod.ext (knd.inj _ _ _ a a') (b.symm.trans b')]
theorem vm {h:Heap} {prog w} {K:Type} [DecidableEq K] {knd:PySem.KeyKind prog w K} {a k1 k2 e1 e2} (x:h.DictAt knd a k1 e1) (y:h.DictAt knd a k2 e2):k1=k2:=by
 obtain ⟨o,es,g,_,hd,_,p,_⟩:=x
 obtain ⟨o',es',g',_,hd',_,p',_⟩:=y
 rw [g] at g';w_cond g'
 rw [hd] at hd';w_cond hd'
 exact vn p p'
theorem xE {h d e b v} (q:rU d e=some b) (x:Data W h v d) (y:Data W h v e):b=true:=by
 refine xD q x y ?_
 intro K L _ knd em ks ls xs lk a c ka kb ep eq T
 obtain ⟨rfl,e,ha,hb,hm,hn,da,hk,sa,sb,q⟩:=T
 w_cond e
 obtain rfl:=vm ha hb
 have hl:=congrArg List.length (hm.symm.trans hn)
 rw [fJ,fJ] at hl
 exact si ha.nodup hk (λp hp=>hp) hm da ((if_pos hl).symm.trans q)
noncomputable def An (d e:PV):Option Bool:=match d with
 | .dS _ _=>rU d e
 | .dI _ _=>rU d e
 | _=>gM 4 d e
theorem vB {d e b} (q:An d e=some b):rU d e=some b∨gM 4 d e=some b:=by
 cases d <;> first | exact .inl q | exact .inr q
theorem Hc {d e b v u} (hA:A.units+6<cLine) (q:An d e=some b) (x:Data W s.heap v d) (y:Data W s.heap u e):AC W A s v u b:=by
 rcases vB q with q | q
 ·by_cases hv:v=u
  ·subst hv
   obtain rfl:=xE q x y
   exact AC.of_at (SeqAt.EqAt.same _)
  ·have H:=λE=>oK (E:=E) (A:=A) (by w_fin) q x y
   refine xD q x y ?_
   intro K L _ knd em ks ls xs lk a c ka kb ep eq T
   obtain ⟨rfl,rfl,_⟩:=T
   exact AC.of_eq (λq=>hv (congrArg Value.ref q)) λE Q h=>(H E).1 Q h
 ·exact AC.of_at (oN (by w_fin) q x y)
inductive AN (W:Wd) (A:Around) (s:Shared):List (Value×Value)->Bool->Prop
 | nil:AN W A s [] true
 | cons {v u:Value} {r:List (Value×Value)} {a b:Bool}:AC W A s v u a->AN W A s r b->AN W A s ((v,u)::r) (a&&b)
set_option tactic.hygienic true in
theorem wc {l b its jts n m r}:
  MeetsIn W.prog W.w (Builtin.«tuple.__eq__» ⟨[.ref l,.ref b],[]⟩) (λA R s=>s.heap.get? l=some (kN its n)/\s.heap.get? b=some (kN jts m)/\AN W A.in1 s (its.toList.zip jts.toList) r/\
   R (.ok (.ret (.bool (r&&its.size==jts.size)))) s):=
 .of_wp λA R s h=>by
  obtain ⟨hp,g,d,tk,os⟩:=s;obtain ⟨hl,hb,hz,h⟩:=h
  have f2:=AutoSeq1.sub_tuple_tuple
  wp_walk using wpAny_loadPart' hl,wpAny_loadPart' hb,wpAny_forIn_list _ (λrest b s'=>b.1=none/\s'=⟨hp,g,d,tk,os⟩/\∃ r',AN W A.in1 ⟨hp,g,d,tk,os⟩ rest r'/\R (.ok (.ret (.bool (r'&&its.size==jts.size)))) ⟨hp,g,d,tk,os⟩) _
  case turn=>
   rintro ⟨y,x⟩ rest b s' ⟨hb',rfl,r',hz',hR⟩
   cases hz' with
   | cons he hr=>
    rename_i a c
    refine wpAny_bind (he _ _ ?_)
    cases a with
    | true=>
     wp_walk
     exact ⟨rfl,rfl,_,hr,by simpa using hR⟩
    | false=>
     wp_walk
     exact ⟨_,rfl,by simpa using hR⟩
  case fin=>
   rintro ⟨b1,b2⟩ s' ⟨hb',rfl,r',hz',hR⟩
   simp only at hb'
   subst hb'
   w_cond hz'
   wp_walk
   exact ⟨_,rfl,by simpa [Builtin.Tuple.tupleCompareSizes] using hR⟩
  exact ⟨rfl,rfl,r,hz,h⟩
set_option tactic.hygienic true in
theorem wd {l b its jts n m r}:
  MeetsIn W.prog W.w (Builtin.«tuple.__ne__» ⟨[.ref l,.ref b],[]⟩) (λA R s=>s.heap.get? l=some (kN its n)/\s.heap.get? b=some (kN jts m)/\AN W A.in1 s (its.toList.zip jts.toList) r/\
   R (.ok (.ret (.bool (!(r&&its.size==jts.size))))) s):=
 .of_wp λA R s h=>by
  obtain ⟨hp,g,d,tk,os⟩:=s;obtain ⟨hl,hb,hz,h⟩:=h
  have f2:=AutoSeq1.sub_tuple_tuple
  wp_walk using wpAny_loadPart' hl,wpAny_loadPart' hb,wpAny_forIn_list _ (λrest b s'=>b.1=none/\s'=⟨hp,g,d,tk,os⟩/\∃ r',AN W A.in1 ⟨hp,g,d,tk,os⟩ rest r'/\R (.ok (.ret (.bool (!(r'&&its.size==jts.size))))) ⟨hp,g,d,tk,os⟩) _
  case turn=>
   rintro ⟨y,x⟩ rest b s' ⟨hb',rfl,r',hz',hR⟩
   cases hz' with
   | cons he hr=>
    rename_i a c
    refine wpAny_bind (he _ _ ?_)
    cases a with
    | true=>
     wp_walk
     exact ⟨rfl,rfl,_,hr,by simpa using hR⟩
    | false=>
     wp_walk
     exact ⟨_,rfl,by simpa using hR⟩
  case fin=>
   rintro ⟨b1,b2⟩ s' ⟨hb',rfl,r',hz',hR⟩
   simp only at hb'
   subst hb'
   w_cond hz'
   wp_walk
   exact ⟨_,rfl,by simpa [Builtin.Tuple.tupleCompareSizes,bne] using hR⟩
  exact ⟨rfl,rfl,r,hz,h⟩
theorem IE (hA:A.units+6<cLine) {vs us ds es b} (x:ae W s.heap vs ds):ae W s.heap us es->ds.length=es.length->eH (List.zipWith An ds es)=some b->AN W A s (vs.zip us) b:=by
 revert us es b
 refine ae.ind (P:=λvs ds=>∀ {us es b},ae W s.heap us es->ds.length=es.length->eH (List.zipWith An ds es)=some b->AN W A s (vs.zip us) b) (λU U q=>?_) (λ{v d vs ds} a r ih us es b y hl q=>?_) x
 ·w_cond q;exact .nil
 ·cases es with
  | nil=>w_cond hl
  | cons e es=>
   obtain ⟨u,us,rfl,a',r'⟩:=y.cons_inv
   rw [List.zipWith_cons_cons] at q
   cases hq:An d e with
   | none=>rw [hq] at q;exact nS q
   | some c=>
    rw [hq] at q
    obtain ⟨c',h1,rfl⟩:=(aA q:_)
    exact .cons (Hc hA hq a a') (ih r' (Nat.succ.inj hl) h1)
noncomputable def Am (d e:PV):Option Bool:=match d with
 | .dS _ _=>rU d e
 | .dI _ _=>rU d e
 | .tuple xs=>(match e with
  | .tuple ys=>if xs.length=ys.length then eH (List.zipWith An xs ys) else none
  | _=>none)
 | .list _=>gM 4 d e
 | _=>rV d e
noncomputable def FU (d e:PV):Option Bool:=(Am d e).map (!·)
theorem xF {d e b v u} (q:rV d e=some b) (x:Data W s.heap v d) (y:Data W s.heap u e):SeqAt.RcAt A s v u b/\SeqAt.RcNeAt A s v u (!b):=by
 refine t8 (P:=λd e b=>Data W s.heap v d->Data W s.heap u e->SeqAt.RcAt A s v u b/\SeqAt.RcNeAt A s v u (!b)) (λx y=>?_) (λa c x y=>?_) (λa c x y=>?_) (λa c x y=>?_) q x y
 ·rw [RV.noneI (h:=s.heap) (.inl x),RV.noneI (h:=s.heap) (.inl y)];exact ⟨SeqAt.RcAt.none_none,SeqAt.RcNeAt.none_none⟩
 ·rw [RV.boolI (h:=s.heap) (.inl x),RV.boolI (h:=s.heap) (.inl y)];exact ⟨SeqAt.RcAt.bool_bool a c,SeqAt.RcNeAt.bool_bool a c⟩
 ·obtain ⟨t,rfl⟩:=RV.intI (h:=s.heap) (.inl x)
  obtain ⟨t',rfl⟩:=RV.intI (h:=s.heap) (.inl y)
  exact ⟨SeqAt.RcAt.int_int a t c t',SeqAt.RcNeAt.int_int a t c t'⟩
 ·obtain ⟨⟨t,rfl⟩,_⟩:=RV.strI (h:=s.heap) (.inl x)
  obtain ⟨⟨t',rfl⟩,_⟩:=RV.strI (h:=s.heap) (.inl y)
  rw [<-uU a c]
  exact ⟨SeqAt.RcAt.str_str (bM a) t (bM c) t',SeqAt.RcNeAt.str_str (bM a) t (bM c) t'⟩
theorem tA {d e b v u E} (hA:A.units+9<cLine) (q:Am d e=some b) (x:Data W s.heap v d) (y:Data W s.heap u e):
  (∀ Q:Value->Shared->Prop,Q (.bool b) s->wpAny W.M A (compareOp .Eq v u) Q E s)/\(∀ Q:Value->Shared->Prop,Q (.bool (!b)) s->wpAny W.M A (compareOp .NotEq v u) Q E s):=by
 have hu:A.units<cLine:=by w_fin
 have flat:rV d e=some b->_:=λq=>(⟨λQ h=>(xF (A:=A) q x y).1 _ _ E Q h,λQ h=>(xF (A:=A) q x y).2 _ _ E Q h⟩:
  (∀ Q:Value->Shared->Prop,Q (.bool b) s->wpAny W.M A (compareOp .Eq v u) Q E s)/\(∀ Q:Value->Shared->Prop,Q (.bool (!b)) s->wpAny W.M A (compareOp .NotEq v u) Q E s))
 cases d with
 | dS ks xs=>exact oK (by w_fin) (show rU (.dS ks xs) e=some b from q) x y
 | list xs=>cases e with
  | list ys=>
   obtain ⟨p,vs,ep,rfl,g,_,a⟩:=x.lI
   obtain ⟨p',us,ep',rfl,g',_,a'⟩:=y.lI
   by_cases hl:xs.length=ys.length
   ·obtain ⟨e,h1,h2⟩:=ta (A:=A) (k:=3) (λq x y=>oN (by show A.units+1+3<cLine;w_fin) q x y) a a' ((if_pos hl).symm.trans q) hl
    have hs:vs.toArray.size=us.toArray.size:=by simp only [List.size_toArray];rw [a.length,a'.length];exact hl
    rw [h2]
    exact ⟨λQ h=>SeqAt.RcAt.lists ⟨_,g,rfl,_,rfl⟩ ⟨_,g',rfl,_,rfl⟩ hs hu h1 _ _ E Q h,λQ h=>SeqAt.RcNeAt.lists ⟨_,g,rfl,_,rfl⟩ ⟨_,g',rfl,_,rfl⟩ hs hu h1 _ _ E Q h⟩
   ·cases (if_neg hl).symm.trans q
    have hs:(vs.toArray.size != us.toArray.size)=true:=by simp only [List.size_toArray,bne_iff_ne,ne_eq];rw [a.length,a'.length];exact hl
    exact ⟨λQ h=>SeqAt.RcAt.lists_lengths ⟨_,g,rfl,_,rfl⟩ ⟨_,g',rfl,_,rfl⟩ hs hu _ _ E Q h,λQ h=>SeqAt.RcNeAt.lists_lengths ⟨_,g,rfl,_,rfl⟩ ⟨_,g',rfl,_,rfl⟩ hs hu _ _ E Q h⟩
  | _=>exact nS q
 | tuple xs=>cases e with
  | tuple ys=>
   obtain ⟨hl,q⟩:=bI q
   obtain ⟨p,vs,ep,rfl,g,_,a⟩:=x.tI
   obtain ⟨p',us,ep',rfl,g',_,a'⟩:=y.tI
   have z:=IE (A:=A.in1) (by show A.units+1+6<cLine;w_fin) a a' hl q
   have hs:(b&&vs.toArray.size==us.toArray.size)=b:=by
    have:vs.length=us.length:=by rw [a.length,a'.length];exact hl
    simp [this]
   refine ⟨λQ h=>?_,λQ h=>?_⟩
   ·refine wpAny_richCompare_same_room (op:= .Eq) ⟨_,g,rfl⟩ ⟨_,g',rfl⟩ F.slot_tuple_eq (call_meetsIn F.slot_tuple_eq ⟨_,g,rfl⟩ F.entry_tuple_eq (F.args_tuple_eq_2 _ _) wc ⟨g,g',z,?_⟩) hu
    rw [hs];exact ⟨(λx=>nomatch x),h⟩
   ·refine wpAny_richCompare_same_room (op:= .NotEq) ⟨_,g,rfl⟩ ⟨_,g',rfl⟩ F.slot_tuple_ne (call_meetsIn F.slot_tuple_ne ⟨_,g,rfl⟩ F.entry_tuple_ne (F.args_tuple_ne_2 _ _) wd ⟨g,g',z,?_⟩) hu
    rw [hs];exact ⟨(λx=>nomatch x),h⟩
  | _=>exact nS q
 | dI ks xs=>exact oK (by w_fin) (show rU (.dI ks xs) e=some b from q) x y
 | _=>exact flat q
end
section
theorem ge:je W (compareOp .Eq) Am:=by
 intro A s a b da db r F hA g hF ha hb h
 exact (tA (by have:=hA.units;w_fin) h (ha.data hF) (hb.data hF)).1 _ ⟨rfl,Gr.refl _ _⟩
theorem fA:je W (compareOp .NotEq) FU:=by
 intro A s a b da db r F hA g hF ha hb h
 obtain ⟨c,h',rfl⟩:=(aA h:_)
 exact (tA (by have:=hA.units;w_fin) h' (ha.data hF) (hb.data hF)).2 _ ⟨rfl,Gr.refl _ _⟩
noncomputable def Eo (fi:Int->Int->Bool) (fs:List Nat->List Nat->Bool) (d e:PV):Option Bool:=match d with
 | .int a=>(fG e).map λb=>fi a b
 | .str a=>(vr e).map λb=>fs a b
 | _=>none
theorem tS {o fi fs} (hi:∀ {A:Around} {s:Shared} {a b:Int} {t u:Tok} {Q:Value->Shared->Prop} {E:Value->Shared->Prop},Q (.bool (fi a b)) s->wpAny W.M A (compareOp o (.int a t) (.int b u)) Q E s) (hs:∀ {A:Around} {s:Shared} {a b:List Nat} {t u:Tok} {Q:Value->Shared->Prop} {E:Value->Shared->Prop},Q (.bool (fs a b)) s->wpAny W.M A (compareOp o (.str (bM a) t) (.str (bM b) u)) Q E s):je W (compareOp o) (Eo fi fs):=by
 intro A s a b da db r F hA g hF ha hb h
 cases da with
 | int i=>
  obtain ⟨j,e,rfl⟩:=aA h
  obtain rfl:=aJ e
  obtain ⟨t,rfl⟩:=ha.intI
  obtain ⟨u,rfl⟩:=hb.intI
  exact hi ⟨rfl,Gr.refl _ _⟩
 | str i=>
  obtain ⟨j,e,rfl⟩:=aA h
  obtain rfl:=dW e
  obtain ⟨⟨t,rfl⟩,_⟩:=ha.strI
  obtain ⟨⟨u,rfl⟩,_⟩:=hb.strI
  exact hs ⟨rfl,Gr.refl _ _⟩
 | _=>exact nS h
noncomputable def G7 (fi:Int->Int->Bool) (d e:PV):Option Bool:=(fG d).bind λa=>(fG e).map λb=>fi a b
noncomputable def GR:PV->PV->Option Bool:=Eo (λa b=>decide (a<b)) λa b=>decide (a<b)
noncomputable def Jt:PV->PV->Option Bool:=Eo (λa b=>decide (b<a)) λa b=>decide (b<a)
noncomputable def Ll:PV->PV->Option Bool:=G7 λa b=>decide (a<=b)
noncomputable def Lk:PV->PV->Option Bool:=G7 λa b=>decide (b<=a)
theorem jP:je W (compareOp .Lt) GR:=tS (λq=>lt_int q) λq=>lt_str q
theorem AX:je W (compareOp .Gt) Jt:=tS (λq=>gt_int q) λq=>P.gt_str q
noncomputable def GQ (d e:PV):Option Bool:=match e with
 | .none=>(match d with
  | .none=>some true
  | _=>some false)
 | .bool b=>(match d with
  | .bool a=>some (a==b)
  | _=>some false)
 | _=>none
noncomputable def rO (a b:PV):Option Bool:=(GQ a b).map (!·)
theorem qx {d e b v u h F} (q:GQ d e=some b) (x:RV W h F v d) (y:RV W h F u e) (hF:bF F h):PySem.plainIs v u=true/\(v==u)=b:=by
 have x':=x.data hF
 clear x hF
 cases e with
 | none=>
  rw [y.noneI];clear y
  revert q
  cases x' <;> (intro q;w_cond q;exact ⟨rfl,rfl⟩)
 | bool c=>
  rw [y.boolI];clear y
  revert q
  cases x' with
  | bool a=>intro q;w_cond q;exact ⟨rfl,by cases a <;> cases c <;> rfl⟩
  | _=>intro q;w_cond q;exact ⟨rfl,rfl⟩
 | _=>exact nS q
theorem xd:je W (compareOp .Is) GQ:=by
 intro A s a b da db r F hA g hF ha hb h
 obtain ⟨h1,h2⟩:=qx h ha hb hF
 exact wpAny_is_plain h1 ⟨by rw [h2],Gr.refl _ _⟩
theorem tN:je W (compareOp .IsNot) rO:=by
 intro A s a b da db r F hA g hF ha hb h
 obtain ⟨c,h',rfl⟩:=(aA h:_)
 obtain ⟨h1,h2⟩:=qx h' ha hb hF
 exact wpAny_isNot_plain h1 ⟨by rw [h2],Gr.refl _ _⟩
noncomputable def ol (d:PV):List PV->Option Bool
 | []=>some false
 | x::r=>(rV x d).bind λa=>(ol d r).map (a || ·)
theorem AQ {d x r}:ol d (x::r)=(rV x d).bind λa=>(ol d r).map (a || ·):=rfl
noncomputable def ES:List Nat->Option Nat
 | [c]=>some c
 | _=>none
theorem qJ {k c} (h:ES k=some c):k=[c]:=by
 cases k with
 | nil=>exact nS h
 | cons a l=>cases l with
  | nil=>w_cond h;rfl
  | cons _ _=>exact nS h
noncomputable def w8 (d e:PV):Option Bool:=match e with
 | .list xs=>ol d xs
 | .dS ks xs=>(match d with
  | .int _=>if ks.isEmpty then some false else none
  | _=>(vr d).map λk=>(eO ks xs k).isSome)
 | .dI ks xs=>(fG d).map λk=>(eN ks xs k).isSome
 | .str l=>(vr d).bind λk=>(ES k).map λc=>decide (c∈l)
 | _=>none
noncomputable def iR (a b:PV):Option Bool:=(w8 a b).map (!·)
theorem oM {h v d d' e b} (q:rV d e=some b) (x:Data W h v d) (y:Data W h v d'):d=d':=by
 refine t8 (P:=λd e b=>Data W h v d->d=d') (λx=>?_) (λa c x=>?_) (λa c x=>?_) (λa c x=>?_) q x
 ·obtain rfl:=RV.noneI (h:=h) (.inl x);w_cond y;rfl
 ·obtain rfl:=RV.boolI (h:=h) (.inl x);w_cond y;rfl
 ·obtain ⟨t,rfl⟩:=RV.intI (h:=h) (.inl x);w_cond y;rfl
 ·obtain ⟨⟨t,rfl⟩,_⟩:=RV.strI (h:=h) (.inl x)
  generalize hq:bM a=z at y
  w_cond y;rw [iy hq]
open Classical in
/-- the items of a list,each equal or not -/
noncomputable def qu (W:Wd) (h:Heap) (d:PV) (v:Value):Bool:=decide (∃ x,Data W h v x/\rV x d=some true)
theorem ut {h v x d b} (hx:Data W h v x) (q:rV x d=some b):qu W h d v=b:=by
 unfold qu
 cases b with
 | true=>simp only [decide_eq_true_eq];exact ⟨x,hx,q⟩
 | false=>
  simp only [decide_eq_false_iff_not]
  rintro ⟨x',hx',q'⟩
  rw [<-oM q hx hx',q] at q';w_cond q'
theorem vq {s A d u} (hu:Data W s.heap u d) {vs xs b} (x:ae W s.heap vs xs):ol d xs=some b->
  (∀ v∈vs,SeqAt.EqAt A s v u (qu W s.heap d v))/\vs.any (qu W s.heap d)=b:=by
 revert b
 refine ae.ind (P:=λvs xs=>∀ {b},ol d xs=some b->(∀ v∈vs,SeqAt.EqAt A s v u (qu W s.heap d v))/\vs.any (qu W s.heap d)=b) (λq=>?_) (λa r ih b q=>?_) x
 ·w_cond q;exact ⟨λv h=>mN h,rfl⟩
 ·obtain ⟨c,h1,h2⟩:=(ah q:_)
  obtain ⟨c',h3,rfl⟩:=(aA h2:_)
  obtain ⟨i1,i2⟩:=ih h3
  refine ⟨λv hv=>?_,by rw [List.any_cons,i2,ut a h1]⟩
  rcases aX hv with rfl | hv
  ·rw [ut a h1];exact rW h1 a hu
  ·exact i1 v hv
theorem i4 (W:Wd) (l) (t):(strKind W.prog W.w).is (bM l) (.str (bM l) t)=true:=by
 show Value.isStrOf (bM l) (.str (bM l) t)=true
 simp [Value.isStrOf]
theorem dn (W:Wd) (i) (t):(intKind W.prog W.w).is i (.int i t)=true:=by
 show Value.isInt i (.int i t)=true
 simp [Value.isInt]
theorem mZ {K K':Type} [DecidableEq K] [DecidableEq K'] {k1:KeyKind W.prog W.w K} (k2:KeyKind W.prog W.w K') {h:Heap} {a ep} (x:h.DictAt k1 a [] ep):h.DictAt k2 a [] ep:=by
 obtain ⟨o,es,g,hx,hd,hk,p,n⟩:=x
 generalize hes:es.toList=l at p
 w_cond p
 have:es=#[]:=Array.toList_eq_nil_iff.mp hes
 subst this
 exact ⟨o,#[],g,hx,hd,λe he=>by simp at he,.nil,List.nodup_nil⟩
theorem lK (W':Wd) {h:Heap} {a ep} (x:h.DictAt (strKind W.prog W.w) a [] ep):h.DictAt (intKind W.prog W.w) a [] ep:=mZ _ x
noncomputable def Cu:PV->Option (List Int×List PV)
 | .dI ks xs=>some (ks,xs)
 | .dS [] []=>some ([],[])
 | _=>none
theorem u8 {d p} (h:Cu d=some p):d= .dI p.1 p.2∨(d= .dS [] []/\p=([],[])):=by
 cases d with
 | dI ks xs=>w_cond h;exact .inl rfl
 | dS ks xs=>
  cases ks with
  | nil=>cases xs with
   | nil=>w_cond h;exact .inr ⟨rfl,rfl⟩
   | cons _ _=>exact nS h
  | cons _ _=>exact nS h
 | _=>exact nS h
theorem hU {F v d p} (h:Cu d=some p) (x:Data W F v d):Data W F v (.dI p.1 p.2):=by
 rcases u8 h with rfl | ⟨rfl,rfl⟩
 ·exact x
 ·cases x using Data.dSE with | mk a kvs ep e n1 m1 b o q=>
  have:kvs=[]:=by simpa using m1
  subst this
  exact .dI (lK W e) n1 rfl .nil q
theorem Af {F v d p} (h:Cu d=some p) (x:Data W F v (.dI p.1 p.2)):Data W F v d:=by
 rcases u8 h with rfl | ⟨rfl,rfl⟩
 ·exact x
 ·cases x using Data.dIE with | mk a kvs ep e n1 m1 b q=>
  have:kvs=[]:=by simpa using m1
  subst this
  exact .dS (mZ _ e) n1 rfl .nil (λk hk=>mN hk) q
theorem qC {h:Heap} {o:Option PV} {u:Option Value} (lk:(∀ d,o=some d->∃ v,u=some v/\Data W h v d)/\(o=none->u=none)):u.isSome=o.isSome:=by
 cases hq:o with
 | none=>rw [lk.2 hq];rfl
 | some y=>obtain ⟨v,h1,_⟩:=lk.1 y hq;rw [h1];rfl
theorem oU {A s E} {K:Type} [DecidableEq K] {knd:KeyKind W.prog W.w K} {kv:Value} {key:K} {p kvs ep r} (hk:knd.is key kv=true) (e:s.heap.DictAt knd p kvs ep) (hs:p≠sysModules) (hr:(valueAt kvs key).isSome=r):
  (∀ Q:Value->Shared->Prop,(∀ tk,Q (.bool r) { s with toks:=tk })->wpAny W.M A (compareOp .In kv (.ref p)) Q E s)/\(∀ Q:Value->Shared->Prop,(∀ tk,Q (.bool (!r)) { s with toks:=tk })->wpAny W.M A (compareOp .NotIn kv (.ref p)) Q E s):=by
 subst hr
 exact ⟨λQ hq=>wpAny_in_of hk (by simpa using hs) e.dictOf.mapOf (hq _),λQ hq=>wpAny_notIn_of hk (by simpa using hs) e.dictOf.mapOf (hq _)⟩
theorem um {A s a b da db r F E} (hA:cf 0 A) (g:GI W s) (hF:bF F s.heap) (ha:RV W s.heap F a da) (hb:RV W s.heap F b db) (h:w8 da db=some r):
  (∀ Q:Value->Shared->Prop,(∀ tk,Q (.bool r) { s with toks:=tk })->wpAny W.M A (compareOp .In a b) Q E s)/\(∀ Q:Value->Shared->Prop,(∀ tk,Q (.bool (!r)) { s with toks:=tk })->wpAny W.M A (compareOp .NotIn a b) Q E s):=by
 cases db with
 | list xs=>
  obtain ⟨p,vs,ep,rfl,e,n,d⟩:=hb.listI hF
  obtain ⟨h1,h2⟩:=vq (A:=A.in1) (ha.data hF) (d.sub hF) h
  rw [<-List.any_toArray] at h2
  exact ⟨λQ hq=>SeqAt.in_listAt (qu W s.heap da) ⟨_,e,rfl,_,rfl⟩ (λy hy=>h1 y (by simpa using hy)) (by rw [h2];exact hq s.toks),λQ hq=>SeqAt.notIn_listAt (qu W s.heap da) ⟨_,e,rfl,_,rfl⟩ (λy hy=>h1 y (by simpa using hy)) (by rw [h2];exact hq s.toks)⟩
 | dS ks xs=>
  have hh:(∃ i,da= .int i/\ks=[]/\false=r)∨(vr da).map (λk=>(eO ks xs k).isSome)=some r:=by
   cases da with
   | int i=>
    obtain ⟨hc,q⟩:=bI h
    exact .inl ⟨i,rfl,List.isEmpty_iff.mp hc,sI q⟩
   | _=>exact .inr h
  (try clear h)
  rcases hh with ⟨i,rfl,rfl,rfl⟩ | h
  ·obtain ⟨t,rfl⟩:=ha.intI
   obtain ⟨p,kvs,ep,rfl,e,n,hm,d,_,hs⟩:=hb.dSI hF
   have:kvs=[]:=by simpa using hm
   subst this
   exact oU (dn W i t) (lK W e) hs rfl
  ·obtain ⟨k,e0,rfl⟩:=aA h
   obtain rfl:=dW e0
   obtain ⟨⟨t,rfl⟩,_⟩:=ha.strI
   obtain ⟨p,kvs,ep,rfl,e,n,hm,d,_,hs⟩:=hb.dSI hF
   exact oU (i4 W k t) e hs (qC (l8 hm d k))
 | dI ks xs=>
  obtain ⟨k,e0,rfl⟩:=aA h
  obtain rfl:=aJ e0
  obtain ⟨t,rfl⟩:=ha.intI
  obtain ⟨p,kvs,ep,rfl,e,n,hm,d,hs⟩:=hb.dII hF
  exact oU (dn W k t) e hs (qC (jv hm d k))
 | str l=>
  obtain ⟨k,e0,h⟩:=ah h
  obtain ⟨c,e1,rfl⟩:=aA h
  obtain rfl:=dW e0
  obtain rfl:=qJ e1
  obtain ⟨⟨t,rfl⟩,_⟩:=ha.strI
  obtain ⟨⟨u,rfl⟩,_⟩:=hb.strI
  have hf:_=decide (c∈l):=StrLaws.found_one (bM l) c
  exact ⟨λQ hq=>PyProof.Rows.in_str (by rw [show bM [c]=({ cps:=#[c] }:Str) from rfl,hf];exact hq s.toks),λQ hq=>P.notIn_str (by rw [show bM [c]=({ cps:=#[c] }:Str) from rfl,hf];exact hq s.toks)⟩
 | _=>exact nS h
theorem Ei:je W (compareOp .In) w8:=by
 intro A s a b da db r F hA g hF ha hb h
 exact (um hA g hF ha hb h).1 _ λtk=>⟨rfl,Gr.tok _⟩
theorem oF:je W (compareOp .NotIn) iR:=by
 intro A s a b da db r F hA g hF ha hb h
 obtain ⟨c,h',rfl⟩:=(aA h:_)
 exact (um hA g hF ha hb h').2 _ λtk=>⟨rfl,Gr.tok _⟩
end
noncomputable def kJ (k:Int) (n:Nat):Option Nat:=if 0<=k then (if k<n then some k.toNat else none) else if -(n:Int)<=k then some (k + n).toNat else none
noncomputable def a8 (d k:PV):Option PV:=match d with
 | .list xs=>(fG k).bind λk=>(kJ k xs.length).bind λi=>xs[i]?
 | .tuple xs=>(fG k).bind λk=>(kJ k xs.length).bind λi=>xs[i]?
 | .str l=>(fG k).bind λk=>(kJ k l.length).bind λi=>l[i]?.map λc=> .str [c]
 | .dS ks xs=>(vr k).bind λk=>eO ks xs k
 | .dI ks xs=>(fG k).bind λk=>eN ks xs k
 | _=>none
theorem ir {k n i} (h:kJ k n=some i):(0<=k/\k<n/\i=k.toNat)∨(k<0/\ -(n:Int)<=k/\i=(k + n).toNat):=by
 unfold kJ at h
 split at h
 ·split at h
  ·w_cond h;left;w_fin
  ·w_cond h
 ·split at h
  ·w_cond h;right;w_fin
  ·w_cond h
theorem lZ {k n i} (h:kJ k n=some i):seqIndex? k n=some i:=by
 rcases ir h with ⟨a,b,rfl⟩ | ⟨a,b,rfl⟩ <;> unfold seqIndex? <;> simp <;> w_fin
section
variable {n:Nat} {fc:FC}
noncomputable def KY (o i:Value):Sem Value:=operate [o,i] (getItem o i)
theorem pn {A E s value slice o i T id Q} (hs:∃ ops,subscripted slice false o i=operate ops (getItem o i)) (hT:s.TypeIs o T) (hl:Slot T "__getitem__" id) (h:wpAny W.M A (getItem o i) Q E s):wpAny W.M A (subscriptTail value slice o i) Q E s:=
 let ⟨_,hs⟩:=hs;tail_any hT hl.lookup h hs
theorem lU {A s μ o i d k r} (g:GI W s) (ho:RV W s.heap (fz W s.heap μ) o d) (hi:RV W s.heap (fz W s.heap μ) i k) (h:a8 d k=some r):
  ∃ T id,s.TypeIs o T/\Slot T "__getitem__" id/\wpAny W.M A (getItem o i) (PD W μ s r) (λU U=>False) s:=by
 cases d with
 | list xs=>
  obtain ⟨k,e0,h⟩:=ah h
  obtain ⟨j,h1,h2⟩:=ah h
  obtain rfl:=aJ e0
  obtain ⟨t,rfl⟩:=hi.intI
  obtain ⟨a,vs,ep,rfl,e,hn,hd⟩:=ho.listI (av _ _ _)
  obtain ⟨v,h3,h4⟩:=hd.get h2
  have hl:=hd.length
  refine ⟨_,_,⟨_,e,rfl⟩,slot_list_getitem,?_⟩
  rcases ir h1 with ⟨a1,a2,rfl⟩ | ⟨a1,a2,rfl⟩
  ·exact wpAny_getItem_list ⟨_,e,rfl,_,rfl⟩ a1 (by unfold be at hn;w_fin) (by simpa using h3) ⟨h4,Gr.refl _ _⟩
  ·exact wpAny_getItem_list_neg ⟨_,e,rfl,_,rfl⟩ a1 (by erw [List.size_toArray];w_fin) (by unfold be at hn;w_fin) (by simpa [hl] using h3) ⟨h4,Gr.refl _ _⟩
 | tuple xs=>
  obtain ⟨k,e0,h⟩:=ah h
  obtain ⟨j,h1,h2⟩:=ah h
  obtain rfl:=aJ e0
  obtain ⟨t,rfl⟩:=hi.intI
  obtain ⟨a,vs,ep,rfl,e,hn,hd⟩:=ho.tupleI (av _ _ _)
  obtain ⟨v,h3,h4⟩:=hd.get h2
  have hl:=hd.length
  refine ⟨_,_,⟨_,e,rfl⟩,F.slot_tuple_getitem,?_⟩
  have:=ir h1
  exact getItem_tuple ⟨_,e,rfl,_,rfl⟩ (by unfold be at hn;w_fin) (by unfold be at hn;w_fin) (j:=j) (by erw [List.size_toArray,hl];exact lZ h1) (by simpa using h3) ⟨h4,Gr.refl _ _⟩
 | str l=>
  obtain ⟨k,e0,h⟩:=ah h
  obtain ⟨j,h1,h2⟩:=ah h
  obtain ⟨c,h3,rfl⟩:=aA h2
  obtain rfl:=aJ e0
  obtain ⟨t,rfl⟩:=hi.intI
  obtain ⟨⟨t',rfl⟩,hn⟩:=ho.strI
  have hl:(bM l).length=l.length:=by simp [Str.length]
  refine ⟨_,_,(show s.TypeIs (.str _ _) "str" from rfl),F.slot_str_getitem,?_⟩
  have:=ir h1
  refine PyProof.Rows.getItem_str (c:=c) (by simp;unfold be at hn;w_fin) ?_ ⟨.str [c] _ (by unfold be;simp),Gr.tok _⟩
  erw [hl,lZ h1]
  simpa using h3
 | dS ks xs=>
  obtain ⟨k,e0,h⟩:=ah h
  obtain rfl:=dW e0
  obtain ⟨⟨t,rfl⟩,_⟩:=hi.strI
  obtain ⟨a,kvs,ep,rfl,e,hn,hm,hd,_,hs⟩:=ho.dSI (av _ _ _)
  obtain ⟨v,h1,h2⟩:=(l8 hm hd k).1 r h
  obtain ⟨o,es,g1,g2,_⟩:=id e
  exact ⟨_,_,⟨_,g1,g2.1⟩,F.slot_dict_getitem,(wpAny_getItem_of (i4 W k t) e.dictOf.mapOf h1 ⟨h2,Gr.tok _⟩)⟩
 | dI ks xs=>
  obtain ⟨k,e0,h⟩:=ah h
  obtain rfl:=aJ e0
  obtain ⟨t,rfl⟩:=hi.intI
  obtain ⟨a,kvs,ep,rfl,e,hn,hm,hd,hs⟩:=ho.dII (av _ _ _)
  obtain ⟨v,h1,h2⟩:=(jv hm hd k).1 r h
  obtain ⟨o,es,g1,g2,_⟩:=id e
  exact ⟨_,_,⟨_,g1,g2.1⟩,F.slot_dict_getitem,(wpAny_getItem_of (dn W k t) e.dictOf.mapOf h1 ⟨h2,Gr.tok _⟩)⟩
 | _=>exact nS h
theorem qk {A s μ o i d k r} (g:GI W s) (ho:RV W s.heap (fz W s.heap μ) o d) (hi:RV W s.heap (fz W s.heap μ) i k) (h:a8 d k=some r):
  wpAny W.M A (getItem o i) (PD W μ s r) (λU U=>False) s:=let ⟨_,_,_,_,q⟩:=lU g ho hi h;q
theorem yB {A s μ value slice o i d k r} (hs:subscripted slice false=KY) (g:GI W s) (ho:RV W s.heap (fz W s.heap μ) o d) (hi:RV W s.heap (fz W s.heap μ) i k) (h:a8 d k=some r):
  wpAny W.M A (subscriptTail value slice o i) (PD W μ s r) (λU U=>False) s:=let ⟨_,_,a,b,q⟩:=lU g ho hi h;pn ⟨_,congrFun (congrFun hs o) i⟩ a b q
theorem au {a i pos fa fi} (ha:SE W n fc a fa) (hi:SE W n fc i fi) (hs:subscripted i false=KY:=by rfl):
  SE W n fc (.Subscript a i pos) (λst=>(pe fa st).bind λx=>(pe fi st).bind λk=>(a8 x k).map .d):=by
 intro A env κ B ω st s sv hA x h
 obtain ⟨da,h1,h⟩:=ah h
 obtain ⟨db,h2,h⟩:=ah h
 obtain ⟨r',h3,rfl⟩:=(aA h:_)
 obtain ⟨sa,h1,pa⟩:=cr h1
 obtain ⟨sb,h2,pb⟩:=cr h2
 refine Subscript_ (wpAny_mono (ha A env κ B ω st s sa hA x h1) (λa s₁ g₁=>?_) λU U e=>e)
 have x₁:=x.gr g₁.2
 refine wpAny_mono (hi A env κ B ω st s₁ sb hA x₁ h2) (λb s₂ g₂=>?_) λU U e=>e
 have x₂:=x₁.gr g₂.2
 exact wpAny_mono (yB hs x₂.gi ((g₁.1.rv pa).gr x₁.gi g₂.2) (g₂.1.rv pb) h3) (λv s₃ g₃=>⟨g₃.1,(g₁.2.trans g₂.2).trans g₃.2⟩) λU U e=>e
def SP (W:Wd) (n:Nat) (fc:FC) (e:Option Expr) (f:List SV->Option (Option Int)):Prop:=
 ∀ (A:Around) (env:Env) (κ:List Addr) (B:aN) (ω:List Addr) (st:List SV) (s:Shared) (k:Option Int),cf n A->bD W fc env κ B ω st s->f st=some k->
  wpAny W.M A (evalPart e env) (λv s'=>IsPart v k/\Gr W s s') (λU U=>False) s
theorem bg:SP W n fc none (λU=>some none):=by
 intro A env κ B ω st s k hA x h
 w_cond h
 exact wpAny_pure ⟨.none,Gr.refl _ _⟩
theorem bJ {e f} (hf:SE W n fc e f):SP W n fc (some e) (λst=>(pe f st).bind λd=>(fG d).map some):=by
 intro A env κ B ω st s k hA x h
 obtain ⟨da,h1,h⟩:=ah h
 obtain ⟨i,e,rfl⟩:=(aA h:_)
 obtain rfl:=aJ e
 obtain ⟨sa,h1,pa⟩:=cr h1
 refine wpAny_mono (hf A env κ B ω st s sa hA x h1) (λv s₁ g₁=>?_) λU U e=>e
 obtain ⟨t,rfl⟩:=(g₁.1.rv pa).intI
 exact ⟨.int _ _,g₁.2⟩
noncomputable def kL (lo hi st:Option Int) (n:Nat):List Nat:=sliceRange (sliceBounds lo hi st n).1 (sliceBounds lo hi st n).2.1 (sliceBounds lo hi st n).2.2
noncomputable def ce {α:Type} (xs:List α) (lo hi st:Option Int):List α:=(kL lo hi st xs.length).filterMap (xs[·]?)
noncomputable def mn (d:PV) (lo hi st:Option Int):Option PV:=
 if st=some 0 then none else match d with
 | .list xs=>if (ce xs lo hi st).length<=be then some (.list (ce xs lo hi st)) else none
 | .str l=>ei (ce l lo hi st)
 | _=>none
theorem ae.filterMap {F:Heap} {vs:List Value} {ds:List PV} (x:ae W F vs ds):∀ ix:List Nat,ae W F (ix.filterMap (vs[·]?)) (ix.filterMap (ds[·]?))
 | []=> .nil
 | i::ix=>by
  rw [List.filterMap_cons,List.filterMap_cons]
  cases h:ds[i]? with
  | none=>
   have:vs[i]? =none:=by
    rw [List.getElem?_eq_none_iff] at h ⊢;rw [x.length];exact h
   rw [this];exact x.filterMap ix
  | some d=>
   obtain ⟨v,h1,h2⟩:=x.get h
   erw [h1];exact .cons h2 (x.filterMap ix)
theorem gF {α:Type}:∀ l:List α,(List.range l.length).filterMap (l[·]?)=l
 | []=>rfl
 | x::r=>by
  rw [List.length_cons,List.range_succ_eq_map,List.filterMap_cons]
  simp only [List.getElem?_cons_zero,List.filterMap_map]
  congr 1
  exact gF r
theorem qZ {a b:Int} {n:Nat} (ha:0<=a) (hb:b<=n) (h:(sliceRange a b 1).length=n):sliceRange a b 1=List.range n:=by
 unfold sliceRange at *
 simp only [show (1:Int) > 0 by w_fin,if_true,fJ,List.length_range] at h ⊢
 by_cases hn:n=0
 ·erw [h,hn];simp
 ·have hlt:a<b:=by
   by_cases q:a<b
   ·exact q
   ·rw [if_neg q] at h;simp at h;w_fin
  rw [if_pos hlt] at h ⊢
  have e1:(b - a+1 - 1) / 1=b - a:=by w_fin
  rw [e1] at h ⊢
  have:a=0:=by w_fin
  subst this
  erw [show (b - 0).toNat=n from h]
  conv=>rhs;rw [<-List.map_id (List.range n)]
  refine List.map_congr_left λk U=>?_
  simp
theorem re {lo hi st n} (h1:st.getD 1=1) (h2:(kL lo hi st n).length=n):kL lo hi st n=List.range n:=by
 unfold kL at *
 have e:(sliceBounds lo hi st n).2.2=1:=h1
 rw [e] at h2 ⊢
 refine qZ ?_ ?_ h2
 ·unfold sliceBounds
  rw [h1]
  cases lo with
  | none=>simp
  | some i=>simp only [show (1:Int) > 0 by w_fin,if_true];w_fin
 ·unfold sliceBounds
  erw [h1]
  cases hi with
  | none=>simp
  | some i=>simp only [show (1:Int) > 0 by w_fin,if_true];w_fin
set_option tactic.hygienic true in
theorem vX {A s μ value slice o vl vu vs sl lo hi stp d r} (g:GI W s) (ex:Ex s μ) (ho:RV W s.heap (fz W s.heap μ) o d) (hsl:∃ ops,subscripted slice false o (.ref sl)=operate ops (getItem o (.ref sl))) (hs:s.heap.IsSliceOf sl vl vu vs) (pl:IsPart vl lo) (pu:IsPart vu hi) (ps:IsPart vs stp) (h:mn d lo hi stp=some r):
  wpAny W.M A (subscriptTail value slice o (.ref sl)) (PD W μ s r) (λU U=>False) s:=by
 unfold mn at h
 split at h
 ·w_cond h
 rename_i h0
 cases d with
 | list xs=>
  obtain ⟨a,us,ep,rfl,e,hn,hd⟩:=ho.listI (av _ _ _)
  simp only at h
  split at h
  ·rename_i hlim
   w_cond h
   refine pn hsl ⟨_,e,rfl⟩ slot_list_getitem (wpAny_getItem_list_slice ⟨_,e,rfl,_,rfl⟩ hs pl pu ps h0 ?_ (by simpa using bj hn))
   have he:slicePick us.toArray lo hi stp=(ce us lo hi stp).toArray:=by
    unfold slicePick ce kL;simp
   erw [he]
   have hl:=hd.length
   have hd':=hd.filterMap (kL lo hi stp us.length)
   have:ae W (fz W s.heap μ) (ce us lo hi stp) (ce xs lo hi stp):=by
    unfold ce;erw [<-hl];exact hd'
   exact ⟨gQ g ex this (by rw [this.length];exact hlim),Gr.push _⟩
  ·w_cond h
 | str l=>
  obtain ⟨⟨t,rfl⟩,hn⟩:=ho.strI
  simp only [ei] at h
  split at h
  ·rename_i hlim
   w_cond h
   obtain ⟨l',hl'⟩:∃ p:Option (Int×Tok),vl=partValue p/\p.map (·.1)=lo:=by
    cases pl with
    | none=>exact ⟨none,rfl,rfl⟩
    | int i t=>exact ⟨some (i,t),rfl,rfl⟩
   obtain ⟨u',hu'⟩:∃ p:Option (Int×Tok),vu=partValue p/\p.map (·.1)=hi:=by
    cases pu with
    | none=>exact ⟨none,rfl,rfl⟩
    | int i t=>exact ⟨some (i,t),rfl,rfl⟩
   obtain ⟨s',hs'⟩:∃ p:Option (Int×Tok),vs=partValue p/\p.map (·.1)=stp:=by
    cases ps with
    | none=>exact ⟨none,rfl,rfl⟩
    | int i t=>exact ⟨some (i,t),rfl,rfl⟩
   obtain ⟨rfl,rfl⟩:=hl'
   obtain ⟨rfl,rfl⟩:=hu'
   obtain ⟨rfl,rfl⟩:=hs'
   have hlen:(bM l).length=l.length:=by simp [Str.length]
   have hp:slicePicked (bM l) l' u' s'=kL (l'.map (·.1)) (u'.map (·.1)) (s'.map (·.1)) l.length:=by
    unfold slicePicked kL;erw [hlen];rfl
   have hst:((s'.map (·.1)).getD 1==0)=false:=by
    cases s' with
    | none=>rfl
    | some p=>
     have:p.1≠0:=λq=>h0 (by simp [q])
     simpa using this
   refine pn hsl (show s.TypeIs (.str _ _) "str" from rfl) F.slot_str_getitem (wpAny_getItem_str_slice hs hst ?_)
   unfold sliceMade
   erw [hp]
   split
   ·rename_i hc
    simp only [Bool.and_eq_true,beq_iff_eq,hlen] at hc
    have:ce l (l'.map (·.1)) (u'.map (·.1)) (s'.map (·.1))=l:=by
     unfold ce;erw [re hc.1 hc.2,gF]
    erw [this]
    exact ⟨.str _ _ hn,Gr.refl _ _⟩
   ·have e:(kL (l'.map (·.1)) (u'.map (·.1)) (s'.map (·.1)) l.length).filterMap ((bM l).cps[·]?)=ce l (l'.map (·.1)) (u'.map (·.1)) (s'.map (·.1)):=by
     unfold ce;simp
    erw [e]
    exact ⟨by simp [Str.length];exact bj hlim,.str _ _ hlim,Gr.tok _⟩
  ·w_cond h
 | _=>w_cond h
theorem AB {a l u stp p pos fa fl fu fs} (ha:SE W n fc a fa) (hl:SP W n fc l fl) (hu:SP W n fc u fu) (hs:SP W n fc stp fs):
  SE W n fc (.Subscript a (.Slice l u stp p) pos) (λst=>(pe fa st).bind λx=>(fl st).bind λlo=>(fu st).bind λhi=>(fs st).bind λsp=>(mn x lo hi sp).map .d):=by
 intro A env κ B ω st s sv hA x h
 obtain ⟨da,h1,h⟩:=ah h
 obtain ⟨lo,h2,h⟩:=ah h
 obtain ⟨hi,h3,h⟩:=ah h
 obtain ⟨sp,h4,h⟩:=ah h
 obtain ⟨r',h5,rfl⟩:=(aA h:_)
 obtain ⟨sa,h1,pa⟩:=cr h1
 refine Subscript_ (wpAny_mono (ha A env κ B ω st s sa hA x h1) (λa s₁ g₁=>wpAny_Slice ?_) λU U e=>e)
 have x₁:=x.gr g₁.2
 refine wpAny_mono (hl A env κ B ω st s₁ lo hA x₁ h2) (λvl s₂ g₂=>?_) λU U e=>e
 have x₂:=x₁.gr g₂.2
 refine wpAny_mono (hu A env κ B ω st s₂ hi hA x₂ h3) (λvu s₃ g₃=>?_) λU U e=>e
 have x₃:=x₂.gr g₃.2
 refine wpAny_mono (hs A env κ B ω st s₃ sp hA x₃ h4) (λvs s₄ g₄=>?_) λU U e=>e
 have x₄:=x₃.gr g₄.2
 have gp:Gr W s₄ { s₄ with heap:=s₄.heap.push { cls:= .type "slice",data:= .fields #[vl,vu,vs] } }:=Gr.push _
 have x₅:=x₄.gr gp
 have k:=(g₂.2.trans g₃.2).trans (g₄.2.trans gp)
 exact wpAny_mono (vX x₅.gi x₅.ex ((g₁.1.rv pa).gr x₁.gi k) (match stp with | none=>⟨_,rfl⟩ | some _=>⟨_,rfl⟩) (Heap.IsSliceOf.new _ _ _ _) g₂.1 g₃.1 g₄.1 h5) (λv s₆ g₆=>⟨g₆.1,(g₁.2.trans k).trans g₆.2⟩) λU U e=>e
noncomputable def de (f:List SV->Option SV) (st:List SV):Option PV:=dy (f st)
theorem aT {f st d} (h:de f st=some d):f st=some (.d d):=c7 h
def gb (W:Wd) (n:Nat) (fc:FC) (es:List Expr) (f:List SV->Option (List PV)):Prop:=
 ∀ (A:Around) (env:Env) (κ:List Addr) (B:aN) (ω:List Addr) (st:List SV) (s:Shared) (ds:List PV) (pos:Pos),cf n A->bD W fc env κ B ω st s->f st=some ds->
  wpAny W.M A (spliced (backTo pos (starEach es env))) (Lg W (aq B κ ω) s ds) (λU U=>False) s
theorem ag:gb W n fc [] (λU=>some []):=by
 intro A env κ B ω st s ds pos hA x h
 w_cond h
 exact wpAny_items_nil ⟨.nil,Gr.refl _ _⟩
theorem ad {e es f g} (hf:SE W n fc e f) (hg:gb W n fc es g) (he:∀ env,starEach (e::es) env=(false,eval e env)::starEach es env:=by w_left):
  gb W n fc (e::es) (λst=>(de f st).bind λd=>(g st).map (d::·)):=by
 intro A env κ B ω st s ds pos hA x h
 obtain ⟨d,h1,h⟩:=ah h
 obtain ⟨ds',h2,rfl⟩:=(aA h:_)
 refine wpAny_items_cons (wpAny_mono (hf A env κ B ω st s _ hA x (aT h1)) (λv s₁ g₁=>?_) λU U e=>e) (he env)
 have x₁:=x.gr g₁.2
 refine wpAny_mono (hg A env κ B ω st s₁ ds' pos hA x₁ h2) (λvs s₂ g₂=>?_) λU U e=>e
 exact ⟨.cons (Data.sub (bo _ g₂.2.kp) g₁.1) g₂.1,g₁.2.trans g₂.2⟩
theorem se {s s'} (g:GI W s) (k:Gr W s s') {a} (h:s'.heap.get? a=none):s.heap.get? a=none:=by
 cases e:s.heap.get? a with
 | none=>rfl
 | some o=>
  by_cases hT:a∈W.T
  ·obtain ⟨ps,e'⟩:=(k.gi g).tab.fields hT
   rw [h] at e';w_cond e'
  ·rw [k.kp a o hT e] at h;w_cond h
theorem aF {e f} (hf:SF W n fc e f):SE W n fc e (λst=>(f st).map .d):=by
 intro A env κ B ω st s sv hA x h
 obtain ⟨d,h',rfl⟩:=aA h
 refine wpAny_mono (hf A env κ B ω st s d hA x h') (λv s₁ g₁=>?_) λU U e=>e
 obtain ⟨⟨a,rfl,hn,c⟩,g⟩:=g₁
 refine ⟨?_,g⟩
 show Data W (fz W s₁.heap (aq B κ ω)) (.ref a) d
 refine aB.freeze (h:=s₁.heap) (F:=fz W s₁.heap (aq B κ ω)) (c.move (λo e=>e) (aG λb hb=>List.mem_cons_of_mem _ hb)) λo e=>?_
 exact bx.mpr ⟨e,x.gi.fresh hn,λq=>by obtain ⟨o',e'⟩:=x.ex a q;erw [hn] at e';w_cond e'⟩
set_option tactic.hygienic true in
theorem bY {es pos f} (hf:gb W n fc es f):SF W n fc (.List es pos) (λst=>(f st).bind b9):=by
 intro A env κ B ω st s d hA x h
 obtain ⟨ds,h1,h2⟩:=(ah h:_)
 simp only [b9] at h2
 split at h2
 ·rename_i hl
  w_cond h2
  refine wpAny_List (wpAny_mono (hf A env κ B ω st s ds pos hA x h1) (λvs s₁ g₁=>?_) λU U e=>e)
  have hvs:vs.length<=be:=by erw [g₁.1.length];exact hl
  have hn:=se x.gi g₁.2 (aK s₁.heap)
  refine ⟨bj hvs,⟨_,rfl,hn,.list (Heap.get?_push_size _ rfl) hvs (g₁.1.sub (ax λb o n1 n2 e=>⟨λq=>?_,Heap.get?_push_of_some _ e⟩))⟩,g₁.2.trans (Gr.push _)⟩
  rcases aX q with rfl | q
  ·rw [aK] at e;w_cond e
  ·exact n2 q
 ·w_cond h2
noncomputable def jU (l:List PV):Option PV:=if l.length<=be then some (.tuple l) else none
set_option tactic.hygienic true in
theorem bA {es k pos f} (hf:gb W n fc es f):SE W n fc (.Tuple es k pos) (λst=>(f st).bind λl=>(jU l).map .d):=by
 intro A env κ B ω st s sv hA x h
 obtain ⟨ds,h1,h2⟩:=(ah h:_)
 obtain ⟨d,h2,rfl⟩:=aA h2
 simp only [jU] at h2
 split at h2
 ·rename_i hl
  w_cond h2
  refine wpAny_Tuple (wpAny_mono (hf A env κ B ω st s ds pos hA x h1) (λvs s₁ g₁=>?_) λU U e=>e)
  have hvs:vs.length<=be:=by rw [g₁.1.length];exact hl
  have x₁:=x.gr g₁.2
  exact ⟨bj hvs,kH x₁.gi x₁.ex g₁.1 hvs,g₁.2.trans (Gr.push _)⟩
 ·w_cond h2
theorem qE {s} (g:GI W s) {a} (h:s.heap.get? a=none):a≠sysModules:=by
 rintro rfl
 obtain ⟨o,e⟩:=g.ok.sysm
 erw [g.top _ _ e] at h;w_cond h
theorem n6 {pos}:SF W n fc (.Dict [] [] pos) (λU=>some (.dS [] [])):=by
 intro A env κ B ω st s d hA x h
 w_cond h
 refine wpAny_Dict_empty ⟨⟨_,rfl,aK _,?_⟩,Gr.push _⟩
 obtain ⟨ep,e⟩:=(Heap.DictAt.dictOf (knd:=strKind W.prog W.w) (h:=s.heap.push { cls:= .type "dict",data:= .dict #[] }) (a:=s.heap.objs.size) (kvs:=[]) (ep:=0) ⟨_,#[],Heap.get?_push_size _ rfl,⟨rfl,rfl,rfl⟩,rfl,λe he=>by simp at he,.nil,List.nodup_nil⟩).dictAt
 exact .dS e (Nat.zero_le _) rfl .nil (λk h=>by simp at h) (qE x.gi (aK _))
noncomputable def JL (k v:PV):Option PV:=(fG k).map λl=> .dI [l] [v]
theorem ti {k v pos fk fv} (hk:SE W n fc k fk) (hv:SE W n fc v fv):
  SF W n fc (.Dict [some k] [v] pos) (λst=>(de fk st).bind λk=>(de fv st).bind λv=>JL k v):=by
 intro A env κ B ω st s d hA x h
 obtain ⟨dk,h1,h⟩:=ah h
 obtain ⟨dv,h2,h⟩:=ah h
 obtain ⟨key,e,rfl⟩:=aA h
 obtain rfl:=aJ e
 clear h e
 have hnew:s.heap.get? s.heap.objs.size=none:=aK _
 have hm:=qE x.gi hnew
 refine wpAny_Dict_walk (knd:=intKind W.prog W.w) (by rfl) (by rfl) (by simp) (by simp) ?_
 have gp:Gr W s { s with heap:=s.heap.push { cls:= .type "dict",data:= .dict #[] } }:=Gr.push _
 have hget:({ s with heap:=s.heap.push { cls:= .type "dict",data:= .dict #[] } }:Shared).heap.get? s.heap.objs.size=some { cls:= .type "dict",data:= .dict #[] }:=Heap.get?_push_size _ rfl
 generalize ({ s with heap:=s.heap.push { cls:= .type "dict",data:= .dict #[] } }:Shared)=s₀ at gp hget ⊢
 generalize s.heap.objs.size=D at hnew hm hget ⊢
 have x₀:bD W fc env κ ⟨D::B.μ,D::B.ν⟩ ω st s₀:=
  x.more gp [D] (λa ha=>by erw [aE ha];exact hnew) (λa ha=>by erw [aE ha];exact ⟨_,hget,dq.of λvs q=>by w_cond q⟩)
 refine evalPairs_cons (wpAny_mono (hk A env κ _ ω st _ _ hA x₀ (aT h1)) (λvk s₁ g₁=>?_) λU U e=>e)
 have x₁:=x₀.gr g₁.2
 refine wpAny_bind (wpAny_mono (hv A env κ _ ω st _ _ hA x₁ (aT h2)) (λvv s₂ g₂=>wpAny_bind (wpAny_standAt (wpAny_pure ?_))) λU U e=>e)
 have d1:Data W (fz W s₁.heap (D::aq B κ ω)) vk (.int key):=g₁.1
 have d2:Data W (fz W s₂.heap (D::aq B κ ω)) vv dv:=g₂.1
 have k:=g₁.2.trans g₂.2
 have e0:=k.kp _ _ (x.gi.fresh hnew) hget
 clear g₁ g₂ x₁ x₀ hget
 cases d1 using Data.intE with | mk t=>
 refine evalPairs_nil ⟨[(key,vv)],⟨dn W key t,rfl,trivial⟩,⟨_,#[],0,e0,⟨rfl,rfl,rfl⟩,rfl,λe he=>by simp at he,.nil,List.nodup_nil⟩,λh' hd hs=>?_⟩
 obtain ⟨ep,hat⟩:=hd.dictAt
 have hp:∃ o,h'.get? D=some o:=let ⟨o,_,e,_⟩:=hat;⟨o,e⟩
 have gk:=gp.trans k
 have k1:Gr W s { s₂ with heap:=h',toks:=s₂.toks+1 }:=⟨λb o hb e=>(hs.2 b λq=>by erw [q,hnew] at e;w_cond e).trans (gk.kp b o hb e),λU=>(gk.gi x.gi).upd e0 (λvs q=>by w_cond q) (by
  cases q:W.G.get? D with
  | none=>rfl
  | some o=>erw [x.gi.top _ _ q] at hnew;w_cond hnew) hs,gk.gens,gk.os,λb e=>gk.dom b (j5 hs hp b e)⟩
 have k2:bF (fz W s₂.heap (D::aq B κ ω)) (fz W h' (D::aq B κ ω)):=ax λb o U n e=>⟨n,(hs.2 b λq=>n (by erw [q];exact .head _)).trans e⟩
 exact ⟨⟨_,rfl,hnew,.dI hat (by show 1<=1048576;w_fin) rfl (.cons (d2.sub k2) .nil) hm⟩,k1⟩
end
noncomputable def ci:SV->SV
 | .fn _=> .u
 | sv=>sv
noncomputable def AS:Option Bool->List SV->Nat->SV->List SV
 | some true,st,i,sv=>fV (st.map ci) i sv
 | _,st,i,sv=>fV st i sv
noncomputable def cF (fc:FC) (st:List SV) (i:Nat) (sv:SV):List SV:=AS (fc.cl[i]?) st i sv
theorem ty {fc:FC} {i z st sv} (h:fc.names[i]? =some (z,.local)):cF fc st i sv=st.set i sv:=by
 unfold cF;rw [FC.at h];exact b7 ..
theorem CS {fc:FC} {i z st sv} (h:fc.names[i]? =some (z,.cell)):cF fc st i sv=(st.map ci).set i sv:=by
 unfold cF;rw [FC.at h];exact b7 ..
noncomputable def eV (fc:FC) (x:Str) (i:Nat):Bool:=match fc.names[i]? with
 | some (y,k)=>y==x&&decide (fc.names.lookup x=some k)&&(k== .local || (k== .cell&&fc.wn.contains x))
 | none=>false
theorem nF {l:List (Str×NameKind)} (h:(l.map (·.1)).Nodup) {i j:Nat} {x k k'} (hi:l[i]? =some (x,k)) (hj:l[j]? =some (x,k')):i=j:=by
 haveI h1:(l.map (·.1))[i]? =some x:=by rw [gY,hi];rfl
 haveI h2:(l.map (·.1))[j]? =some x:=by rw [gY,hj];rfl
 obtain ⟨a,e1⟩:=List.getElem?_eq_some_iff.mp h1
 obtain ⟨b,e2⟩:=List.getElem?_eq_some_iff.mp h2
 exact (List.getElem_inj h).mp (e1.trans e2.symm)
section
variable {n:Nat} {fc:FC} {env:Env} {κ:List Addr} {B:aN} {ω:List Addr} {st:List SV} {s:Shared} {m cm:Str->Option Value}
theorem aR.upd_vrep (x:aR W fc env κ B ω st s m cm) {p h'} (hs:Heap.SameBut p s.heap h') (h1:p∈aq B κ ω) {v sv} (hv:dm W s.heap (aq B κ ω) (bw B ω) v sv) (hf:p∈bw B ω∨∀ f,sv≠ .fn f) (ho:∀ d a,sv= .own d->v= .ref a->a≠p):dm W h' (aq B κ ω) (bw B ω) v sv:=by
 have k1:bF (fz W s.heap (aq B κ ω)) (fz W h' (aq B κ ω)):=ax λb o U n e=>⟨n,(hs.2 b λq=>n (q ▸ h1)).trans e⟩
 rcases hf with hf | hf
 ·exact hv.move ⟨k1,ax λb o U n e=>⟨n,(hs.2 b λq=>n (q ▸ hf)).trans e⟩⟩ λd hd a ha o e U=>(hs.2 a (ho d a hd ha)).trans e
 ·cases sv with
  | fn f=>exact absurd rfl (hf f)
  | u=>trivial
  | d d=>exact Data.sub k1 hv
  | obj c d=>exact eG.sub hv k1
  | ptr a d=>exact ⟨hv.1,Data.sub k1 hv.2⟩
  | own d=>
   obtain ⟨a,e,c⟩:=hv
   exact ⟨a,e,c.move (λo g=>(hs.2 a (ho d a rfl e)).trans g) k1⟩
theorem yS (x:aR W fc env κ B ω st s m cm) {h' tk} (hs:Heap.SameBut env.locals s.heap h'):GI W { s with heap:=h',toks:=tk }:=by
 obtain ⟨o,e,hd⟩:=aI x.ns
 exact x.gi.upd e hd (x.gn _ (lR _ x.lω)) hs
theorem rY {μ} (x:Ex s μ) {p h' tk} (hs:Heap.SameBut p s.heap h') (hp:∃ o,h'.get? p=some o):Ex { s with heap:=h',toks:=tk } μ:=λb hb=>by
 by_cases q:b=p
 ·subst q;exact hp
 ·obtain ⟨o,e⟩:=x b hb
  exact ⟨o,(hs.2 b q).trans e⟩
theorem sA {X:List Addr} (x:∀ b∈X,∀ o,s.heap.get? b=some o->dq o) {p h'} (hs:Heap.SameBut p s.heap h') (hp:∃ o,h'.get? p=some o/\∀ vs,o.data≠ .fields vs):∀ b∈X,∀ o,h'.get? b=some o->dq o:=λb hb o e=>by
 by_cases q:b=p
 ·subst q
  obtain ⟨o',e',hd⟩:=hp
  erw [e] at e';w_cond e';exact .of hd
 ·exact x b hb o ((hs.2 b q).symm.trans e)
theorem aU {st:List SV} {i j sv sv'} (h:(st.set i sv)[j]? =some sv'):(j=i/\sv'=sv)∨(j≠i/\st[j]? =some sv'):=by
 rw [List.getElem?_set] at h
 by_cases q:i=j
 ·subst q
  rw [if_pos rfl] at h
  split at h
  ·w_cond h;exact .inl ⟨rfl,rfl⟩
  ·w_cond h
 ·rw [if_neg q] at h
  exact .inr ⟨λe=>q e.symm,h⟩
theorem mW (x:aR W fc env κ B ω st s m cm) {y c} (h:env.cells.lookup y=some c):c≠env.locals:=λq=>by
 obtain ⟨o,e,hd⟩:=x.cells y c h
 obtain ⟨o',es,ep,e',hd',_⟩:=x.ns
 erw [q] at e;rw [e] at e';w_cond e';erw [hd] at hd';w_cond hd'
theorem eZ {a F d} (c:aB W s.heap F a d) {p v} (h:s.heap.IsCell p v):a≠p:=λq=>by
 subst q
 obtain ⟨o,e,hd⟩:=h
 cases c with
 | list g _ _=>ctx_has e g;w_cond hd
 | dS g _ _ _ _ _=>obtain ⟨o',es,g1,_,g2,_⟩:=g;ctx_has e g1;ctx_has hd g2
 | dI g _ _ _ _=>obtain ⟨o',es,g1,_,g2,_⟩:=g;ctx_has e g1;ctx_has hd g2
theorem aR.store (x:aR W fc env κ B ω st s m cm) {i y h' v sv} (tk) (hi:fc.names[i]? =some (y,.local)) (hn:h'.Ns env.locals (λz=>if z=y then some v else m z)) (hs:Heap.SameBut env.locals s.heap h') (hv:dm W s.heap (aq B κ ω) (bw B ω) v sv) (ho:∀ d a,sv= .own d->v= .ref a->a∈ω/\a≠env.locals/\∀ (j:Nat) (d':PV) (xk:Str×NameKind),st[j]? =some (.own d')->fc.names[j]? =some xk->bp m cm xk≠some (.ref a)):
  aR W fc env κ B ω (st.set i sv) { s with heap:=h',toks:=tk } (λz=>if z=y then some v else m z) cm:=by
 have hL:env.locals∈aq B κ ω:=lR _ (lR _ x.lω)
 have hLf:env.locals∈bw B ω:=lR _ x.lω
 have val_ne:∀ {j:Nat} {xk:Str×NameKind},fc.names[j]? =some xk->j≠i->bp (λz=>if z=y then some v else m z) cm xk=bp m cm xk:=by
  intro j xk hj hne
  obtain ⟨z,k⟩:=xk
  cases k with
  | «local»=>
   haveI:z≠y:=by rintro rfl;exact hne (nF x.nd hj hi)
   exact if_neg this
  | _=>rfl
 have val_i:bp (λz=>if z=y then some v else m z) cm (y,.local)=some v:=if_pos rfl
 refine { x with
  gi:=yS x hs
  ns:=hn
  cells:=λz c h=>(x.cells z c h).sameBut hs (mW x h)
  vars:=λj sv' h=>?_
  apart:=λj l d d' xk yk a h1 h2 h3 h4 h5 h6=>?_
  noL:=λj d xk a h1 h2 h3=>?_
  oω:=λj d xk a h1 h2 h3=>?_
  len:=by erw [List.length_set];exact x.len
  ex:=rY x.ex hs (let ⟨o,e,_⟩:=aI hn;⟨o,e⟩)
  nc:=sA x.nc hs (aI hn) }
 ·rcases aU h with ⟨rfl,rfl⟩ | ⟨hne,h⟩
  ·refine .inr ⟨_,v,hi,rfl,val_i,x.upd_vrep hs hL hv (.inl hLf) λd a e1 e2=>(ho d a e1 e2).2.1⟩
  ·refine (x.vars j sv' h).imp id λ⟨xk,u,a,b,c,d⟩=>⟨xk,u,a,b,(val_ne a hne).trans c,x.upd_vrep hs hL d (.inl hLf) λd' a' e1 e2=>?_⟩
   subst e1 e2
   exact x.noL j d' xk a' h a c
 ·(try clear hn);(try clear hv);rcases aU h1 with ⟨rfl,e1⟩ | ⟨n1,g1⟩
  ·rcases aU h2 with ⟨rfl,e2⟩ | ⟨n2,g2⟩
   ·rfl
   ·ctx_has hi h3
    rw [val_i] at h5;w_cond h5
    exact absurd ((val_ne h4 n2).symm.trans h6) ((ho d a e1.symm rfl).2.2 l d' yk g2 h4)
  ·rcases aU h2 with ⟨rfl,e2⟩ | ⟨n2,g2⟩
   ·rw [hi] at h4;w_cond h4
    erw [val_i] at h6;w_cond h6
    exact absurd ((val_ne h3 n1).symm.trans h5) ((ho d' a e2.symm rfl).2.2 j d xk g1 h3)
   ·exact x.apart j l d d' xk yk a g1 g2 h3 h4 ((val_ne h3 n1).symm.trans h5) ((val_ne h4 n2).symm.trans h6)
 ·rcases aU h1 with ⟨rfl,e1⟩ | ⟨n1,h1⟩
  ·rw [hi] at h2;w_cond h2
   rw [val_i] at h3;w_cond h3
   exact (ho d a e1.symm rfl).2.1
  ·exact x.noL j d xk a h1 h2 ((val_ne h2 n1).symm.trans h3)
 ·rcases aU h1 with ⟨rfl,e1⟩ | ⟨n1,h1⟩
  ·rw [hi] at h2;w_cond h2
   rw [val_i] at h3;w_cond h3
   exact (ho d a e1.symm rfl).1
  ·exact x.oω j d xk a h1 h2 ((val_ne h2 n1).symm.trans h3)
theorem fR {st:List SV} {j:Nat} {sv} (h:(st.map ci)[j]? =some sv):∃ sv',st[j]? =some sv'/\sv=ci sv':=by
 erw [gY] at h
 obtain ⟨sv',h1,h2⟩:=(aA h:_)
 exact ⟨sv',h1,h2.symm⟩
theorem gR {sv d} (h:SV.own d=ci sv):sv= .own d:=by cases sv <;> w_cond h;rfl
theorem aR.storeC (x:aR W fc env κ B ω st s m cm) {i y c h' v sv} (tk) (hi:fc.names[i]? =some (y,.cell)) (hc:env.cells.lookup y=some c) (hk:c∈κ) (hn:h'.IsCell c (some v)) (hs:Heap.SameBut c s.heap h') (hv:dm W s.heap (aq B κ ω) (bw B ω) v sv) (hnf:∀ f,sv≠ .fn f) (ho:∀ d a,sv= .own d->v= .ref a->a∈ω/\a≠env.locals/\∀ (j:Nat) (d':PV) (xk:Str×NameKind),st[j]? =some (.own d')->fc.names[j]? =some xk->bp m cm xk≠some (.ref a)):
  aR W fc env κ B ω ((st.map ci).set i sv) { s with heap:=h',toks:=tk } m (λz=>if z=y then some v else cm z):=by
 have hp:c∈aq B κ ω:=lR _ (cY _ hk)
 have hcell:=x.cells y c hc
 have val_ne:∀ {j:Nat} {xk:Str×NameKind},fc.names[j]? =some xk->j≠i->bp m (λz=>if z=y then some v else cm z) xk=bp m cm xk:=by
  intro j xk hj hne
  obtain ⟨z,k⟩:=xk
  have:z≠y:=by rintro rfl;exact hne (nF x.nd hj hi)
  (try clear hj);cases k <;> first | rfl | exact if_neg this
 have val_i:bp m (λz=>if z=y then some v else cm z) (y,.cell)=some v:=if_pos rfl
 haveI hgi:GI W { s with heap:=h',toks:=tk }:=by
  obtain ⟨o,e,hd⟩:=hcell
  exact x.gi.upd e (λvs q=>by ctx_has hd q) (x.gn _ (cY _ hk)) hs
 refine { x with
  gi:=hgi
  ns:=x.ns.sameBut hs λq=>mW x hc q.symm
  cells:=λz c' h=>?_
  vars:=λj sv' h=>?_
  apart:=λj l d d' xk yk a h1 h2 h3 h4 h5 h6=>?_
  noL:=λj d xk a h1 h2 h3=>?_
  oω:=λj d xk a h1 h2 h3=>?_
  len:=by erw [List.length_set,fJ];exact x.len
  ex:=rY x.ex hs (let ⟨o,e,_⟩:=hn;⟨o,e⟩)
  nc:=sA x.nc hs (let ⟨o,e,hd⟩:=hn;⟨o,e,λvs q=>by ctx_has hd q⟩) }
 ·by_cases q:z=y
  ·subst q
   ctx_has hc h
   simp only [if_true];exact hn
  ·haveI:c'≠c:=by rintro rfl;exact q (x.inj z y c' h hc)
   simp only [if_neg q]
   exact (x.cells z c' h).sameBut hs this
 ·rcases aU h with ⟨rfl,rfl⟩ | ⟨hne,h⟩
  ·refine .inr ⟨_,v,hi,rfl,val_i,x.upd_vrep hs hp hv (.inr hnf) λd a e1 e2=>?_⟩
   (try clear hnf);subst e1
   obtain ⟨a',e3,cc⟩:=hv
   ctx_has e2 e3
   exact eZ cc hcell
  ·obtain ⟨sv0,h0,rfl⟩:=fR h
   (try clear h);(try clear h);rcases x.vars j sv0 h0 with rfl | ⟨xk,u,a,b,c',d⟩
   ·exact .inl rfl
   ·by_cases hfn:∃ f,sv0= .fn f
    ·obtain ⟨f,rfl⟩:=hfn
     exact .inl rfl
    ·have e0:ci sv0=sv0:=by
      cases sv0 with
      | fn f=>exact absurd ⟨f,rfl⟩ hfn
      | _=>rfl
     erw [e0]
     refine .inr ⟨xk,u,a,b,(val_ne a hne).trans c',x.upd_vrep hs hp d (.inr λf q=>hfn ⟨f,q⟩) λd' a' e1 e2=>?_⟩
     subst e1
     obtain ⟨a'',e3,cc⟩:=d
     ctx_has e2 e3
     exact eZ cc hcell
 ·rcases aU h1 with ⟨rfl,e1⟩ | ⟨n1,h1⟩
  ·rcases aU h2 with ⟨rfl,e2⟩ | ⟨n2,h2⟩
   ·rfl
   ·obtain ⟨sv0,h0,q⟩:=fR h2
    erw [gR q] at h0
    ctx_has hi h3
    rw [val_i] at h5;w_cond h5
    exact absurd ((val_ne h4 n2).symm.trans h6) ((ho d a e1.symm rfl).2.2 l d' yk h0 h4)
  ·obtain ⟨sv0,h0,q⟩:=fR h1
   erw [gR q] at h0
   rcases aU h2 with ⟨rfl,e2⟩ | ⟨n2,h2⟩
   ·rw [hi] at h4;w_cond h4
    erw [val_i] at h6;w_cond h6
    exact absurd ((val_ne h3 n1).symm.trans h5) ((ho d' a e2.symm rfl).2.2 j d xk h0 h3)
   ·obtain ⟨sv1,h01,q'⟩:=fR h2
    erw [gR q'] at h01
    exact x.apart j l d d' xk yk a h0 h01 h3 h4 ((val_ne h3 n1).symm.trans h5) ((val_ne h4 n2).symm.trans h6)
 ·rcases aU h1 with ⟨rfl,e1⟩ | ⟨n1,h1⟩
  ·rw [hi] at h2;w_cond h2
   rw [val_i] at h3;w_cond h3
   exact (ho d a e1.symm rfl).2.1
  ·obtain ⟨sv0,h0,q⟩:=fR h1
   rw [gR q] at h0
   exact x.noL j d xk a h0 h2 ((val_ne h2 n1).symm.trans h3)
 ·rcases aU h1 with ⟨rfl,e1⟩ | ⟨n1,h1⟩
  ·rw [hi] at h2;w_cond h2
   rw [val_i] at h3;w_cond h3
   exact (ho d a e1.symm rfl).1
  ·obtain ⟨sv0,h0,q⟩:=fR h1
   rw [gR q] at h0
   exact x.oω j d xk a h0 h2 ((val_ne h2 n1).symm.trans h3)
theorem bR.trans {ω' s s₁ s₂} (x:bR W κ ω s s₁) (h:∀ b∈ω',b∈ω∨s.heap.get? b=none) (y:bR W κ ω' s₁ s₂):bR W κ ω s s₂:=
 ⟨λb o nb e=>y.kp b o (λq=>by
   simp only [List.mem_append] at q nb
   rcases q with q | q | q
   ·exact nb (.inl q)
   ·exact nb (.inr (.inl q))
   ·rcases h b q with h | h
    ·exact nb (.inr (.inr h))
    ·rw [h] at e;w_cond e) (x.kp b o nb e),
  λi g e=>y.gens i g (x.gens i g e),y.os.trans x.os,λb e=>x.dom b (y.dom b e)⟩
theorem aR.addω {s'} (x:aR W fc env κ B ω st s m cm) (k:Gr W s s') {a} (hf:s.heap.get? a=none) (he:∃ o,s'.heap.get? a=some o/\∀ vs,o.data≠ .fields vs) (hG:W.G.get? a=none):aR W fc env κ B (a::ω) st s' m cm:=by
 have nf:∀ b o,s.heap.get? b=some o->b≠a:=λb o e q=>by rw [q,hf] at e;w_cond e
 exact { x with
  gi:=k.gi x.gi
  ns:=(x.gr k).ns
  lω:=List.mem_cons_of_mem _ x.lω
  cells:=(x.gr k).cells
  cω:=λy c h q=>by
   rcases aX q with q | q
   ·obtain ⟨o,e,_⟩:=x.cells y c h
    exact nf c o e q
   ·exact x.cω y c h q
  vars:=λi sv h=>(x.vars i sv h).imp id λ⟨xk,v,a',b',c,d⟩=>⟨xk,v,a',b',c,by
   refine d.move ⟨ax λb o n1 n2 e=>⟨λq=>?_,k.kp b o n1 e⟩,ax λb o n1 n2 e=>⟨λq=>?_,k.kp b o n1 e⟩⟩ λd U a U o e hd=>k.kp _ _ (x.gi.notin e hd) e
   ·simp only [aq,List.mem_append,List.mem_cons] at q n2
    rcases q with q | q | q | q
    ·exact n2 (.inl q)
    ·exact n2 (.inr (.inl q))
    ·exact nf b o e q
    ·exact n2 (.inr (.inr q))
   ·simp only [bw,List.mem_append,List.mem_cons] at q n2
    rcases q with q | q | q
    ·exact n2 (.inl q)
    ·exact nf b o e q
    ·exact n2 (.inr q)⟩
  oω:=λi d xk a h1 h2 h3=>List.mem_cons_of_mem _ (x.oω i d xk a h1 h2 h3)
  dj:=λb hb q=>by
   rcases aX hb with rfl | hb
   ·obtain ⟨o,e⟩:=x.ex b (cY _ q)
    exact nf b o e rfl
   ·exact x.dj b hb q
  ex:=λb hb=>by
   simp only [aq,List.mem_append,List.mem_cons] at hb
   rcases hb with hb | hb | rfl | hb
   ·exact (x.ex.gr x.gi k) b (by simp only [aq,List.mem_append];exact .inl hb)
   ·exact (x.ex.gr x.gi k) b (by simp only [aq,List.mem_append];exact .inr (.inl hb))
   ·exact let ⟨o,e,_⟩:=he;⟨o,e⟩
   ·exact (x.ex.gr x.gi k) b (by simp only [aq,List.mem_append];exact .inr (.inr hb))
  nc:=λb hb o e=>by
   simp only [bw,List.mem_append,List.mem_cons] at hb
   rcases hb with hb | rfl | hb
   ·exact (x.gr k).nc b (by simp only [bw,List.mem_append];exact .inl hb) o e
   ·obtain ⟨o',e',hd⟩:=he
    rw [e] at e';w_cond e';exact .of hd
   ·exact (x.gr k).nc b (by simp only [bw,List.mem_append];exact .inr hb) o e
  gn:=λb hb=>by
   simp only [List.mem_append,List.mem_cons] at hb
   rcases hb with hb | rfl | hb
   ·exact x.gn b (cY _ hb)
   ·exact hG
   ·exact x.gn b (lR _ hb) }
theorem b6 (g:GI W s) {a} (h:s.heap.get? a=none):W.G.get? a=none:=by
 cases e:W.G.get? a with
 | none=>rfl
 | some o=>have:=g.top a o e;erw [h] at this;w_cond this
noncomputable def v6 (fc:FC) (i:Nat):SV->Bool
 | .own _=>false
 | .fn _=>(fc.names[i]?).any EC
 | _=>true
theorem j9 {y i} (h:eV fc y i=true):∃ k,fc.names[i]? =some (y,k)/\fc.names.lookup y=some k/\(k= .local∨(k= .cell/\y∈fc.wn)):=by
 unfold eV at h
 cases e:fc.names[i]? with
 | none=>erw [e] at h;w_cond h
 | some p=>
  obtain ⟨z,k⟩:=p
  rw [e] at h
  simp only [Bool.and_eq_true,Bool.or_eq_true,decide_eq_true_eq,beq_iff_eq,List.contains_iff_mem] at h
  obtain ⟨⟨rfl,h2⟩,h3⟩:=h
  exact ⟨k,rfl,h2,h3.imp id id⟩
theorem bR.same_L {h' tk} (x:aR W fc env κ B ω st s m cm) {m'} (hn:h'.Ns env.locals m') (hs:Heap.SameBut env.locals s.heap h'):bR W κ ω s { s with heap:=h',toks:=tk }:=
 ⟨λb o nb e=>(hs.2 b λq=>nb (by subst q;exact lR _ (lR _ x.lω))).trans e,λU U e=>e,rfl,j5 hs (let ⟨o,e,_⟩:=aI hn;⟨o,e⟩)⟩
theorem bR.same_C {h' tk c v} (hc:c∈κ) (hcc:h'.IsCell c v) (hs:Heap.SameBut c s.heap h'):bR W κ ω s { s with heap:=h',toks:=tk }:=
 ⟨λb o nb e=>(hs.2 b λq=>nb (by subst q;exact lR _ (cY _ hc))).trans e,λU U e=>e,rfl,j5 hs (let ⟨o,e,_⟩:=hcc;⟨o,e⟩)⟩
theorem cu {A y i v sv} (hw:eV fc y i=true) (x:aR W fc env κ B ω st s m cm) (hv:dm W s.heap (aq B κ ω) (bw B ω) v sv) (hfn:∀ f,sv= .fn f->∃ z,fc.names[i]? =some (z,.local)) (ho:∀ d a,sv= .own d->v= .ref a->a∈ω/\a≠env.locals/\∀ (j:Nat) (d':PV) (xk:Str×NameKind),st[j]? =some (.own d')->fc.names[j]? =some xk->bp m cm xk≠some (.ref a)):
  wpAny W.M A (storeName env y v) (PI W fc env κ B ω (cF fc st i sv) s) (λU U=>False) s:=by
 obtain ⟨k,hi,hl,hk⟩:=j9 hw
 have hkind:env.kindOf y=some k:=(bz x.eo y).trans hl
 rcases hk with rfl | ⟨rfl,hwn⟩
 ·refine wpAny_storeName_local hkind x.ns (λh' hn hs=>⟨⟨λz=>if z=y then some v else m z,cm,?_⟩,bR.same_L x hn hs⟩) (by erw [x.eo.kind];rfl)
  have:=x.store (s.toks+1) hi hn hs hv ho
  rw [ty hi];exact this
 ·obtain ⟨c,hc,hck⟩:=x.cw y hwn
  refine wpAny_storeName_cell x.eo.kind hkind hc (x.cells y c hc) λh' hn hs=>⟨⟨m,λz=>if z=y then some v else cm z,?_⟩,bR.same_C hck hn hs⟩
  have:=x.storeC s.toks hi hc hck hn hs hv (λf e=>by obtain ⟨z,hz⟩:=hfn f e;erw [hi] at hz;w_cond hz) ho
  rw [CS hi];exact this
theorem bf.of_inv {out s'} (h:out.2= .next) (g:bR W κ ω s s') {ω'} (x:bD W fc env κ B ω' out.1 s') (hω:∀ b∈ω',b∈ω∨s.heap.get? b=none):bf W fc env κ B ω s out .next s':=by
 unfold bf;erw [h];exact ⟨g,rfl,ω',x,hω⟩
theorem bf.step {s₁ s₂ ω' out fl} (g:bR W κ ω s s₁) (hω:∀ b∈ω',b∈ω∨s.heap.get? b=none) (y:bf W fc env κ B ω' s₁ out fl s₂):bf W fc env κ B ω s out fl s₂:=by
 refine ⟨g.trans hω y.1,?_⟩
 have back:∀ (ω'':List Addr),(∀ b∈ω'',b∈ω'∨s₁.heap.get? b=none)->∀ b∈ω'',b∈ω∨s.heap.get? b=none:=λω'' h b hb=>by
  rcases h b hb with h | h
  ·exact hω b h
  ·exact .inr (g.dom b h)
 have y2:=y.2
 cases e:out.2 with
 | next=>rw [e] at y2;exact ⟨y2.1,let ⟨ω'',a,b⟩:=y2.2;⟨ω'',a,back ω'' b⟩⟩
 | brk=>rw [e] at y2;exact ⟨y2.1,let ⟨ω'',a,b⟩:=y2.2;⟨ω'',a,back ω'' b⟩⟩
 | ret sv=>rw [e] at y2;exact y2
theorem ak {n}:SS W n fc [] (λst=>some (st,.next)):=by
 intro A env κ B ω st s out hA x h
 w_cond h
 exact wpAny_execs_nil (bf.of_inv rfl (bR.refl _ _ _ _) x λb hb=> .inl hb)
noncomputable def aV (f g:List SV->Option (List SV×Fl)) (st:List SV):Option (List SV×Fl):=match f st with
 | some (st',.next)=>g st'
 | r=>r
theorem af {n b bs f g} (hf:SX W n fc b f) (hg:SS W n fc bs g):SS W n fc (b::bs) (aV f g):=by
 intro A env κ B ω st s out hA x h
 unfold aV at h
 cases e:f st with
 | none=>erw [e] at h;w_cond h
 | some o=>
  obtain ⟨st',fl⟩:=o
  erw [e] at h
  refine wpAny_execs_cons (wpAny_mono (hf A env κ B ω st s (st',fl) hA x e) (λfl' s₁ y=>?_) λU U q=>q)
  cases fl with
  | next=>
   obtain ⟨g1,rfl,ω',x',hω⟩:=y
   exact wpAny_mono (hg A env κ B ω' st' s₁ out hA x' h) (λfl2 s₂ z=>bf.step g1 hω z) λU U q=>q
  | brk=>
   w_cond h
   obtain ⟨g1,rfl,y2⟩:=y
   exact ⟨g1,rfl,y2⟩
  | ret sv=>
   w_cond h
   obtain ⟨g1,v,rfl,y2⟩:=y
   exact ⟨g1,v,rfl,y2⟩
theorem bf.of_gr {s₁ s₂ out fl} (k:Gr W s s₁) (y:bf W fc env κ B ω s₁ out fl s₂):bf W fc env κ B ω s out fl s₂:=bf.step (bR.of_gr k) (λb hb=> .inl hb) y
theorem cN {n t body orelse pos ft fb fo} (ht:ST W n fc t ft) (hb:SS W n fc body fb) (ho:SS W n fc orelse fo):
  SX W n fc (.If t body orelse pos) (λst=>(ft st).bind λb=>if b then fb st else fo st):=by
 intro A env κ B ω st s out hA x h
 obtain ⟨b,h1,h2⟩:=(ah h:_)
 refine wpAny_If (wpAny_mono (ht A env κ B ω st s b hA x h1) (λb' s₁ y=>?_) λU U q=>q)
 obtain ⟨rfl,k⟩:=y
 have x₁:=x.gr k
 cases b' with
 | true=>exact wpAny_mono (hb A env κ B ω st s₁ out hA x₁ h2) (λfl s₂ z=>bf.of_gr k z) λU U q=>q
 | false=>exact wpAny_mono (ho A env κ B ω st s₁ out hA x₁ h2) (λfl s₂ z=>bf.of_gr k z) λU U q=>q
noncomputable def rM (fc:FC) (i:Nat) (f:List SV->Option SV) (st:List SV):Option (List SV×Fl):=(f st).bind λsv=>if v6 fc i sv then some (cF fc st i sv,.next) else none
theorem z0 {i sv} (h:v6 fc i sv=true):∀ f,sv= .fn f->∃ z,fc.names[i]? =some (z,.local):=by
 rintro f rfl
 exact yQ h
theorem u5 {i sv} (h:v6 fc i sv=true):∀ d,sv≠ .own d:=by
 rintro d rfl;w_cond h
theorem am {n y} {p pos:Pos} {value f} (i) (hw:eV fc y i=true) (hf:SE W n fc value f) (hs:∀ env,cx fc env->swapsWith value (some (.Name y p)) pos.line env=pure false:=by w_left):
  SX W n fc (.Assign [.Name y p] value pos) (rM fc i f):=by
 intro A env κ B ω st s out hA x h
 unfold rM at h
 cases e:f st with
 | none=>erw [e] at h;w_cond h
 | some sv=>
  rw [e,Option.bind_some] at h
  by_cases hb:v6 fc i sv=true
  ·rw [if_pos hb] at h
   w_cond h
   refine wpAny_Assign_Name (wpAny_mono (hf A env κ B ω st s sv hA x e) (λv s₁ z=>?_) λU U q=>q) (hs env (let ⟨_,_,q⟩:=x;q.eo))
   obtain ⟨m,cm,x₁⟩:=x.gr z.2
   exact wpAny_mono (cu hw x₁ z.1 (z0 hb) λd a e=>absurd e (u5 hb d)) (λU s₂ w=>bf.of_gr z.2 (bf.of_inv rfl w.2 w.1 λb hb=> .inl hb)) λU U q=>q
  ·rw [if_neg hb] at h;w_cond h
theorem v9 {A y i a d s₁} (hw:eV fc y i=true) (x:bD W fc env κ B ω st s) (k:Gr W s s₁) (hf:s.heap.get? a=none) (c:aB W s₁.heap (fz W s₁.heap (a::aq B κ ω)) a d):
  wpAny W.M A (storeName env y (.ref a)) (λU s'=>bf W fc env κ B ω s (cF fc st i (.own d),.next) .next s') (λU U=>False) s₁:=by
 obtain ⟨m,cm,x⟩:=x
 obtain ⟨o,ho,hdd⟩:=c.ex
 have x₁:=x.addω k hf ⟨o,ho,hdd⟩ (b6 x.gi hf)
 refine wpAny_mono (cu (sv:= .own d) hw x₁ ⟨a,rfl,c.move (λU e=>e) (aG λb hb=>?_)⟩ (λf e=>by w_cond e) λd' a' e1 e2=>?_) (λU s₂ w=>?_) λU U q=>q
 ·simp only [aq,List.mem_append,List.mem_cons] at hb ⊢
  rcases hb with hb | hb | hb | hb
  ·exact .inr (.inl hb)
  ·exact .inr (.inr (.inl hb))
  ·exact .inl hb
  ·exact .inr (.inr (.inr hb))
 ·w_cond e2
  refine ⟨.head _,λq=>?_,λj d'' xk h1 h2 h3=>?_⟩
  ·obtain ⟨o,e,_⟩:=aI x.ns
   rw [<-q,hf] at e;w_cond e
  ·have:=x.oω j d'' xk a h1 h2 h3
   obtain ⟨o,e⟩:=x.ex a (lR _ (lR _ this))
   rw [hf] at e;w_cond e
 ·have hω:∀ b∈a::ω,b∈ω∨s.heap.get? b=none:=λb hb=>by
   rcases aX hb with rfl | hb
   ·exact .inr hf
   ·exact .inl hb
  exact bf.step (ω':=a::ω) (bR.of_gr k) hω (bf.of_inv rfl w.2 w.1 λb hb=> .inl hb)
noncomputable def BV (fc:FC) (i:Nat) (f:List SV->Option PV) (st:List SV):Option (List SV×Fl):=(f st).map λd=>(cF fc st i (.own d),.next)
theorem tn {n y} {p pos:Pos} {value f} (i) (hw:eV fc y i=true) (hf:SF W n fc value f) (hs:∀ env,cx fc env->swapsWith value (some (.Name y p)) pos.line env=pure false:=by w_left):
  SX W n fc (.Assign [.Name y p] value pos) (BV fc i f):=by
 intro A env κ B ω st s out hA x h
 obtain ⟨d,h1,h2⟩:=(aA h:_)
 subst h2
 refine wpAny_Assign_Name (wpAny_mono (hf A env κ B ω st s d hA x h1) (λv s₁ z=>?_) λU U q=>q) (hs env (let ⟨_,_,q⟩:=x;q.eo))
 obtain ⟨⟨a,rfl,hn,c⟩,k⟩:=z
 exact v9 hw x k hn c
noncomputable def Ig (f:List SV->Option PV) (st:List SV):Option (List SV×Fl):=(f st).map λd=>(st,.ret (.d d))
theorem b8 {n e pos f} (hf:SE W n fc e f):SX W n fc (.Return (some e) pos) (Ig (de f)):=by
 intro A env κ B ω st s out hA x h
 obtain ⟨d,h1,h2⟩:=(aA h:_)
 subst h2
 refine wpAny_Return_some (wpAny_mono (hf A env κ B ω st s _ hA x (aT h1)) (λv s₁ z=>⟨bR.of_gr z.2,v,rfl,?_,z.2.gi x.gi⟩) λU U q=>q)
 exact Data.sub (aG λb hb=>cY _ hb) z.1
theorem aR.freezeA (x:aR W fc env κ B ω st s m cm) {i d xk a} (hi:st[i]? =some (.own d)) (h1:fc.names[i]? =some xk) (h2:kq xk.2=true) (h3:bp m cm xk=some (.ref a)) (c:aB W s.heap (fz W s.heap (aq B κ ω)) a d):aR W fc env κ B (ω.filter (· != a)) (st.set i (.d d)) s m cm:=by
 obtain ⟨o,ho,hd⟩:=c.ex
 have haω:=x.oω i d xk a hi h1 h3
 have haκ:a∉κ:=λq=>by
  obtain ⟨y,hy⟩:=x.κc a q
  exact eZ c (x.cells y a hy) rfl
 have hf:∀ b∈ω.filter (· != a),b∈ω:=λb hb=>(List.mem_filter.mp hb).1
 have ha':a∉ω.filter (· != a):=λq=>by have:=(List.mem_filter.mp q).2;simp at this
 have s1:∀ b∈aq B κ (ω.filter (· != a)),b∈aq B κ ω:=λb hb=>by
  simp only [aq,List.mem_append] at hb ⊢
  exact hb.imp id λh=>h.imp id (hf b)
 have s2:∀ b∈bw B (ω.filter (· != a)),b∈bw B ω:=λb hb=>by
  simp only [bw,List.mem_append] at hb ⊢
  exact hb.imp id (hf b)
 have frz:Data W (fz W s.heap (aq B κ (ω.filter (· != a)))) (.ref a) d:=by
  refine (c.move (λU e=>e) (aG s1)).freeze λo' e=>bx.mpr ⟨e,x.gi.notin ho hd,λq=>?_⟩
  simp only [aq,List.mem_append] at q
  rcases q with q | q | q
  ·exact x.dj a haω q
  ·exact haκ q
  ·exact ha' q
 have own_of:∀ {j:Nat} {d':PV},(st.set i (.d d))[j]? =some (.own d')->j≠i/\st[j]? =some (.own d'):=λh=>by
  rcases aU h with ⟨rfl,e⟩ | ⟨n,h⟩
  ·w_cond e
  ·exact ⟨n,h⟩
 refine { x with
  lω:=List.mem_filter.mpr ⟨x.lω,by simpa using λq=>x.noL i d xk a hi h1 h3 q.symm⟩
  vars:=λj sv h=>?_
  apart:=λj l d1 d2 xk1 yk1 a1 e1 e2 e3 e4 e5 e6=>x.apart j l d1 d2 xk1 yk1 a1 (own_of e1).2 (own_of e2).2 e3 e4 e5 e6
  noL:=λj d1 xk1 a1 e1 e2 e3=>x.noL j d1 xk1 a1 (own_of e1).2 e2 e3
  oω:=λj d1 xk1 a1 e1 e2 e3=>List.mem_filter.mpr ⟨x.oω j d1 xk1 a1 (own_of e1).2 e2 e3,?_⟩
  cω:=λy c h q=>x.cω y c h (hf c q)
  dj:=λb hb=>x.dj b (hf b hb)
  len:=by erw [List.length_set];exact x.len
  ex:=x.ex.mono s1
  nc:=λb hb=>x.nc b (s2 b hb)
  gn:=λb hb=>x.gn b ((aw hb).elim (λh=>cY _ h) λh=>lR _ (hf b h)) }
 ·rcases aU h with ⟨rfl,rfl⟩ | ⟨hne,h⟩
  ·exact .inr ⟨xk,_,h1,h2,h3,frz⟩
  ·exact (x.vars j sv h).imp id λ⟨xk,u,a,b,c,d⟩=>⟨xk,u,a,b,c,d.move ⟨aG s1,aG s2⟩ λU U U U U e U=>e⟩
 ·have:a1≠a:=by
   rintro rfl
   exact (own_of e1).1 (x.apart j i d1 d xk1 xk a1 (own_of e1).2 hi e2 h1 e3 h3)
  simpa using this
theorem aR.freeze (x:aR W fc env κ B ω st s m cm) {i d} (hi:st[i]? =some (.own d)):∃ ω',aR W fc env κ B ω' (st.set i (.d d)) s m cm/\∀ b∈ω',b∈ω:=by
 rcases x.vars i _ hi with h | ⟨xk,v,h1,h2,h3,a,rfl,c⟩
 ·w_cond h
 exact ⟨_,x.freezeA hi h1 h2 h3 c,λb hb=>(List.mem_filter.mp hb).1⟩
noncomputable def dH:List Nat->List SV->Option (List SV)
 | [],st=>some st
 | i::is,st=>(FW (cn st i)).bind λd=>dH is (fV st i (.d d))
theorem bD.frzs:∀ (is:List Nat) {ω:List Addr} {st st':List SV},bD W fc env κ B ω st s->dH is st=some st'->∃ ω',bD W fc env κ B ω' st' s/\∀ b∈ω',b∈ω:=by
 intro zv
 induction zv with
 | nil=>
  intro ω st st' x h
  w_cond h;exact ⟨ω,x,λU h=>h⟩
 | cons i is ih=>
  rintro ω st st' ⟨m,cm,x⟩ h
  obtain ⟨d,e,h⟩:=ah h
  rw [bV] at e
  rw [b7] at h
  obtain ⟨ω',y,hω⟩:=x.freeze (uJ e)
  obtain ⟨ω'',z,hω'⟩:=ih ⟨m,cm,y⟩ h
  exact ⟨ω'',z,λb hb=>hω b (hω' b hb)⟩
theorem eY {n bs g} (is) (hg:SS W n fc bs g):SS W n fc bs (λst=>(dH is st).bind g):=by
 intro A env κ B ω st s out hA x h
 obtain ⟨st',h1,h2⟩:=(ah h:_)
 obtain ⟨ω',y,hω⟩:=x.frzs is h1
 exact wpAny_mono (hg A env κ B ω' st' s out hA y h2) (λfl s₁ z=>bf.step (bR.refl _ _ _ _) (λb hb=> .inl (hω b hb)) z) λU U q=>q
theorem aR.forget (x:aR W fc env κ B ω st s m cm) (i):aR W fc env κ B ω (st.set i .u) s m cm:=by
 have own_of:∀ {j:Nat} {d':PV},(st.set i .u)[j]? =some (.own d')->st[j]? =some (.own d'):=λh=>by
  rcases aU h with ⟨rfl,e⟩ | ⟨n,h⟩
  ·w_cond e
  ·exact h
 exact { x with
  vars:=λj sv h=>by
   rcases aU h with ⟨rfl,rfl⟩ | ⟨hne,h⟩
   ·exact .inl rfl
   ·exact x.vars j sv h
  apart:=λj l d1 d2 xk1 yk1 a1 e1 e2=>x.apart j l d1 d2 xk1 yk1 a1 (own_of e1) (own_of e2)
  noL:=λj d1 xk1 a1 e1=>x.noL j d1 xk1 a1 (own_of e1)
  oω:=λj d1 xk1 a1 e1=>x.oω j d1 xk1 a1 (own_of e1)
  len:=by erw [List.length_set];exact x.len }
noncomputable def jT:List Nat->List SV->List SV
 | [],st=>st
 | i::is,st=>jT is (fV st i .u)
theorem bD.fgts:∀ (is:List Nat) {st:List SV},bD W fc env κ B ω st s->bD W fc env κ B ω (jT is st) s
 | [],_,x=>x
 | i::is,_,⟨m,cm,x⟩=>bD.fgts is ⟨m,cm,(b7 ..).symm ▸ x.forget i⟩
theorem wC {n bs g} (is) (hg:SS W n fc bs g):SS W n fc bs (λst=>g (jT is st)):=by
 intro A env κ B ω st s out hA x h
 exact hg A env κ B ω _ s out hA (x.fgts is) h
theorem gU {h h' μ a} (hs:Heap.SameBut a h h') (ha:a∈μ):bF (fz W h μ) (fz W h' μ):=ax λb o U n e=>⟨n,(hs.2 b λq=>n (q ▸ ha)).trans e⟩
theorem aR.updOwn (x:aR W fc env κ B ω st s m cm) {i xk a d d' h' tk} (hi:st[i]? =some (.own d)) (hn:fc.names[i]? =some xk) (hk:kq xk.2=true) (hv:bp m cm xk=some (.ref a)) (hs:Heap.SameBut a s.heap h') {F} (c:aB W s.heap F a d) (c':aB W h' (fz W h' (aq B κ ω)) a d'):
  aR W fc env κ B ω (st.set i (.own d')) { s with heap:=h',toks:=tk } m cm/\bR W κ ω s { s with heap:=h',toks:=tk }:=by
 have haω:=x.oω i d xk a hi hn hv
 have ha1:a∈aq B κ ω:=lR _ (lR _ haω)
 have ha2:a∈bw B ω:=lR _ haω
 obtain ⟨o',ho',hd'⟩:=c'.ex
 obtain ⟨o,ho,hd⟩:=c.ex
 have hL:=x.noL i d xk a hi hn hv
 have own_of:∀ {j:Nat} {d1:PV},(st.set i (.own d'))[j]? =some (.own d1)->∃ d2,st[j]? =some (.own d2):=λh=>by
  rcases aU h with ⟨rfl,e⟩ | ⟨n,h⟩
  ·exact ⟨_,hi⟩
  ·exact ⟨_,h⟩
 refine ⟨{ x with
  gi:=x.gi.upd ho hd (x.gn a (lR _ haω)) hs
  ns:=x.ns.sameBut hs λq=>hL q.symm
  cells:=λy c1 h=>(x.cells y c1 h).sameBut hs λq=>eZ c (x.cells y c1 h) q.symm
  vars:=λj sv h=>?_
  apart:=λj l d1 d2 xk1 yk1 a1 e1 e2=>let ⟨_,f1⟩:=own_of e1;let ⟨_,f2⟩:=own_of e2;x.apart j l _ _ xk1 yk1 a1 f1 f2
  noL:=λj d1 xk1 a1 e1=>let ⟨_,f1⟩:=own_of e1;x.noL j _ xk1 a1 f1
  oω:=λj d1 xk1 a1 e1=>let ⟨_,f1⟩:=own_of e1;x.oω j _ xk1 a1 f1
  len:=by erw [List.length_set];exact x.len
  ex:=rY x.ex hs ⟨o',ho'⟩
  nc:=sA x.nc hs ⟨o',ho',hd'⟩ },⟨λb o nb e=>(hs.2 b λq=>nb (by subst q;exact lR _ (lR _ haω))).trans e,λU U e=>e,rfl,j5 hs ⟨o',ho'⟩⟩⟩
 rcases aU h with ⟨rfl,rfl⟩ | ⟨hne,h⟩
 ·exact .inr ⟨xk,_,hn,hk,hv,a,rfl,c'⟩
 ·refine (x.vars j sv h).imp id λ⟨yk,u,p,q,r,t⟩=>⟨yk,u,p,q,r,x.upd_vrep hs ha1 t (.inl ha2) λd1 a1 e1 e2 e3=>?_⟩
  subst e1 e2 e3
  exact hne (x.apart j i d1 d yk xk a1 h hi p hn r hv)
theorem jB (x:aR W fc env κ B ω st s m cm) {y i xk v} (hv:bv fc y i=true) (hn:fc.names[i]? =some xk) (h3:bp m cm xk=some v):kq xk.2=true/\∀ (M:Model) (A:Around) (E:Value->Shared->Prop) (Q:Value->Shared->Prop) (pos:Pos),Q v s->wpAny M A (eval (.Name y pos) env) Q E s:=by
 have hdbg:=cM hv
 unfold bv at hv
 rw [hn] at hv
 obtain ⟨y',k⟩:=xk
 simp only [Bool.and_eq_true,beq_iff_eq,decide_eq_true_eq,Bool.not_eq_true'] at hv
 obtain ⟨⟨⟨⟨rfl,hk⟩,hl⟩,_⟩,hcd⟩:=hv
 refine ⟨hk,λM A E Q pos hq=>wpAny_Name ?_ hdbg⟩
 have hko:=(bz x.eo y').trans hl
 cases k with
 | «local»=>exact wpAny_loadName_local x.eo.kind hko x.ns h3 hq
 | cell=>
  obtain ⟨c,hc⟩:=x.has i y' .cell hn (.inl rfl)
  have:=x.cells y' c hc
  simp only [bp] at h3
  rw [h3] at this
  exact wpAny_loadName_cell x.eo.kind hko hc this hq
 | free=>
  obtain ⟨c,hc⟩:=x.has i y' .free hn (.inr rfl)
  have:=x.cells y' c hc
  simp only [bp] at h3
  rw [h3] at this
  exact wpAny_loadName_free x.eo.kind hko hc this hq hcd
 | globalImplicit=>w_cond hk
 | globalExplicit=>w_cond hk
theorem dE (x:aR W fc env κ B ω st s m cm) {y i d} (hv:bv fc y i=true) (hr:st[i]? =some (.own d)):
  ∃ xk a,fc.names[i]? =some xk/\kq xk.2=true/\bp m cm xk=some (.ref a)/\aB W s.heap (fz W s.heap (aq B κ ω)) a d/\
   ∀ (M:Model) (A:Around) (E:Value->Shared->Prop) (Q:Value->Shared->Prop) (pos:Pos),Q (.ref a) s->wpAny M A (eval (.Name y pos) env) Q E s:=by
 rcases x.vars i _ hr with h | ⟨xk,v,h1,h2,h3,a,rfl,c⟩
 ·w_cond h
 ·exact ⟨_,a,h1,h2,h3,c,(jB x hv h1 h3).2⟩
noncomputable def gN {K:Type} [DecidableEq K]:List K->List PV->K->PV->List K×List PV
 | k'::ks,x::xs,k,v=>if k'=k then (k'::ks,v::xs) else (k'::(gN ks xs k v).1,x::(gN ks xs k v).2)
 | _,_,k,v=>([k],[v])
theorem gB {K:Type} [DecidableEq K] {k' ks x xs} {k:K} {v}:gN (k'::ks) (x::xs) k v=if k'=k then (k'::ks,v::xs) else (k'::(gN ks xs k v).1,x::(gN ks xs k v).2):=rfl
theorem li {K:Type} [DecidableEq K] {xs v} {k:K}:gN [] xs k v=([k],[v]):=rfl
theorem lj {K:Type} [DecidableEq K] {k' ks v} {k:K}:gN (k'::ks) [] k v=([k],[v]):=rfl
theorem mw {F} {K L:Type} [DecidableEq K] [DecidableEq L] (e:L->K) (he:∀ a b,e a=e b->a=b):∀ {kvs:List (K×Value)} {ks:List L} {xs:List PV},kvs.map (·.1)=ks.map e->ae W F (kvs.map (·.2)) xs->(kvs.map (·.1)).Nodup->
  ∀ (k:L) {v:Value} {d:PV},Data W F v d->(stored kvs (e k) v).map (·.1)=(gN ks xs k d).1.map e/\ae W F ((stored kvs (e k) v).map (·.2)) (gN ks xs k d).2/\(stored kvs (e k) v).length<=kvs.length+1:=by
 intro zv
 induction zv with
 | nil=>
  intro zw
  cases zw with
  | nil=>
   intro xs _ hx _ k v d hd
   w_cond hx
   exact ⟨rfl,.cons hd .nil,Nat.le_refl _⟩
  | cons k ks=>
   intro xs h _ _ _ _ _ _
   simp at h
 | cons zc kvs ih=>
  obtain ⟨k',v'⟩:=zc
  intro zw
  cases zw with
  | nil=>
   intro xs h _ _ _ _ _ _
   simp at h
  | cons l ks=>
   intro xs h hx hn k v d hd
   simp only [List.map_cons,List.cons.injEq] at h
   obtain ⟨rfl,h⟩:=h
   simp only [List.map_cons] at hx
   cases hx with | cons a b=>
   simp only [List.map_cons,List.nodup_cons] at hn
   by_cases q:l=k
   ·subst q
    have e1:stored ((e l,v')::kvs) (e l) v=(e l,v)::kvs:=by
     unfold stored
     rw [if_pos (by simp)]
     simp only [List.map_cons,if_true,List.cons.injEq,true_and]
     refine (List.map_congr_left λp hp=>?_).trans (List.map_id _)
     rw [if_neg];rfl
     intro q
     exact hn.1 (List.mem_map.mpr ⟨p,hp,q⟩)
    erw [e1]
    simp only [gB,li,lj,if_true]
    exact ⟨by simp [h],.cons hd b,by simp⟩
   ·obtain ⟨i1,i2,i3⟩:=ih h b hn.2 k hd
    have ne:e l≠e k:=λw=>q (he _ _ w)
    have e1:stored ((e l,v')::kvs) (e k) v=(e l,v')::stored kvs (e k) v:=by
     unfold stored
     simp only [List.any_cons,ne,decide_false,Bool.false_or,List.map_cons,if_false,List.cons_append]
     split <;> rfl
    rw [e1]
    simp only [gB,li,lj,if_neg q]
    exact ⟨by simp [i1],.cons a i2,by simp;w_fin⟩
theorem zG {K:Type} [DecidableEq K]:∀ (ks:List K) (xs:List PV) (k:K) (d:PV),∀ l∈(gN ks xs k d).1,l∈ks∨l=k:=by
 intro zv
 induction zv with
 | nil=>
  intro xs k d l h
  simp [gB,li,lj] at h;exact .inr h
 | cons k' ks ih=>
  intro zw
  cases zw with
  | nil=>
   intro k d l h
   simp [gB,li,lj] at h;exact .inr h
  | cons x xs=>
   intro k d l h
   rw [gB] at h
   split at h
   ·exact .inl h
   ·rcases aX h with rfl | h
    ·exact .inl (.head _)
    ·exact (ih xs k d l h).imp (.tail _) id
noncomputable def iZ (d k v:PV):Option PV:=match d with
 | .dS ks xs=>(match k with
  | .str k=>if xs.length<be then some (.dS (gN ks xs k v).1 (gN ks xs k v).2) else none
  | .int k=>if ks.isEmpty then some (.dI [k] [v]) else none
  | _=>none)
 | .dI ks xs=>(fG k).bind λk=>if xs.length<be then some (.dI (gN ks xs k v).1 (gN ks xs k v).2) else none
 | .list xs=>(fG k).bind λk=>if 0<=k/\k<xs.length then some (.list (xs.set k.toNat v)) else none
 | _=>none
theorem i7 {K:Type} [DecidableEq K] {knd:PySem.KeyKind W.prog W.w K} {h:Heap} {a kvs ep} (x:h.DictAt knd a kvs ep):(kvs.map (·.1)).Nodup:=by
 obtain ⟨o,es,a,b,c,d,e,f⟩:=x
 exact f
theorem jK {K:Type} [DecidableEq K] {knd:PySem.KeyKind W.prog W.w K} {h:Heap} {a kvs ep} (x:h.DictAt knd a kvs ep):h.DictOf knd a kvs:=by
 obtain ⟨o,es,a,b,c,d,e,f⟩:=x
 exact ⟨o,es,_,a,b,c,d,e,f⟩
theorem yR (vs:List Value) (ep) (f):∃ ep',(cj vs.toArray ep).mapSeq f=cj (f vs.toArray) ep':=⟨_,rfl⟩
theorem fY {l} {vs us:List Value} {ep} {h:Heap} (ho:h.get? l=some (cj vs.toArray ep)) (f) (hf:f vs.toArray=us.toArray):
  ∃ ep',(h.update l (Obj.mapSeq f)).get? l=some (cj us.toArray ep'):=by
 obtain ⟨ep',e⟩:=yR vs ep f
 refine ⟨ep',?_⟩
 rw [Heap.get?_update_self _ ho (by rw [e];rfl),e,hf]
theorem pj {A:Around} {E:Value->Shared->Prop} {s:Shared} {l:Addr} {vs:List Value} {ep:Nat} {k:Int} {t:Tok} {v:Value} {Q:Unit->Shared->Prop} (ho:s.heap.get? l=some (cj vs.toArray ep)) (h0:0<=k) (hfit:k<2 ^ 63) (hn:k<vs.length)
  (hQ:∀ h' ep',h'.get? l=some (cj (vs.set k.toNat v).toArray ep')->Heap.SameBut l s.heap h'->Q () { s with heap:=h' }):wpAny W.M A (setItem (.ref l) (.int k t) v) Q E s:=by
 have hl:s.heap.IsList l vs.toArray:=⟨_,ho,rfl,ep,rfl⟩
 unfold setItem
 try with_reducible refine wpAny_holding ?_
 first | refine wpAny_bind (wpAny_pure ?_) | skip
 refine wpAny_bind (wpAny_sequenceKey hl.typeIs (by decide) ?_)
 refine wpAny_bind (wpAny_callSpecial?_slot (name:=Str.ofString "__setitem__") hl.typeIs slot_list_setitem
  (wpAny_call_entry slot_list_setitem hl.typeIs entry_list_setitem ?_ (args_list_setitem _ _ _)))
 show wpAny _ _ (Builtin.List.listSubscript? (.int k t) >>= _) _ _ s
 refine wpAny_bind (wpAny_listSubscript_int (fitsIndex_of h0 hfit) ?_)
 (try clear hfit)
 obtain ⟨j,rfl⟩:=Int.eq_ofNat_of_zero_le h0
 have hj:j<vs.toArray.size:=by rw [List.size_toArray];w_fin
 have hx':vs.toArray[j]? =some vs.toArray[j]:=Array.getElem?_eq_getElem hj
 show wpAny _ _ ((seqItemAt l j >>= λr=>pure (r.map (j,·))) >>= _) _ _ s
 refine wpAny_bind (wpAny_bind (wpAny_seqItemAt ho rfl (wpAny_pure ?_)))
 erw [hx']
 show wpAny _ _ (setSeqItemAt l j v >>= _) _ _ s
 obtain ⟨ep',e⟩:=fY (us:=vs.set j v) ho (·.setIfInBounds j v) (by simp)
 refine wpAny_bind (wpAny_setSeqItemAt ho rfl ?_)
 first
  | exact wpAny_bind (wpAny_pure (wpAny_pure ⟨.none,rfl,wpAny_pure (hQ _ _ e (Heap.SameBut.update ..))⟩))
  | exact wpAny_pure ⟨.none,rfl,wpAny_pure (hQ _ _ e (Heap.SameBut.update ..))⟩
theorem p7 {A:Around} {S:Sem Unit} {a:Addr} {d dk dv d':PV} {k v:Value} (hc:aB W s.heap (fz W s.heap (aq B κ ω)) a d) (ha:a∈aq B κ ω) (hk:Data W (fz W s.heap (aq B κ ω)) k dk) (hv:Data W (fz W s.heap (aq B κ ω)) v dv) (h:iZ d dk dv=some d') (hl:pA d=none)
  (hS:∀ {K:Type} [DecidableEq K] {knd:PySem.KeyKind W.prog W.w K} {key:K} {kvs:List (K×Value)} {Q:Unit->Shared->Prop},knd.is key k=true->s.heap.DictOf knd a kvs->(∀ h',h'.DictOf knd a (stored kvs key v)->Heap.SameBut a s.heap h'->Q () { s with heap:=h',toks:=s.toks+1 })->kvs.length<=sizeLine->wpAny W.M A S Q (λU U=>False) s):
  wpAny W.M A S (λU s'=>∃ h' tk,s'={ s with heap:=h',toks:=tk }/\Heap.SameBut a s.heap h'/\aB W h' (fz W h' (aq B κ ω)) a d') (λU U=>False) s:=by
 have sub:∀ {h'},Heap.SameBut a s.heap h'->bF (fz W s.heap (aq B κ ω)) (fz W h' (aq B κ ω)):=λhs=>gU hs ha
 cases d with
 | dS ks xs=>
  cases hc using aB.dSE with | mk _ _ g n1 m1 b o q=>
  cases dk with
  | str k'=>
   obtain ⟨hl,h⟩:=bI h
   w_cond h
   cases hk using Data.strE with | mk t hkl=>
   obtain ⟨p1,p2,p3⟩:=mw bM (λU U=>iy) m1 b (i7 g) k' hv
   have hb:=b.length
   rw [fJ] at hb
   refine hS (knd:=strKind W.prog W.w) (i4 W k' t) (jK g) (λh' hd hs=>?_) (bj n1)
   obtain ⟨ep',hd'⟩:=hd.dictAt
   exact ⟨h',_,rfl,hs,.dS hd' (by w_fin) p1 (p2.sub (sub hs)) (λk hk=>(zG _ _ _ _ _ hk).elim (o k) λe=>e ▸ hkl) q⟩
  | int k'=>
   obtain ⟨he,h⟩:=bI h
   w_cond h
   cases hk using Data.intE with | mk t=>
   have he:=List.map_eq_nil_iff.mp (m1.trans (by erw [List.isEmpty_iff.mp he];rfl))
   subst he
   refine hS (knd:=intKind W.prog W.w) (dn W k' t) (jK (lK W g)) (λh' hd hs=>?_) (bj n1)
   obtain ⟨ep',hd'⟩:=hd.dictAt
   exact ⟨h',_,rfl,hs,.dI hd' (by show 1<=1048576;w_fin) rfl (.cons (hv.sub (sub hs)) .nil) q⟩
  | _=>exact nS h
 | dI ks xs=>
  obtain ⟨k',e,h⟩:=ah h
  obtain rfl:=aJ e
  obtain ⟨hl,h⟩:=bI h
  w_cond h
  cases hk using Data.intE with | mk t=>
  cases hc using aB.dIE with | mk _ _ g n1 m1 b q=>
  obtain ⟨p1,p2,p3⟩:=mw (λi:Int=>i) (λU U h=>h) (m1.trans (List.map_id _).symm) b (i7 g) k' hv
  have hb:=b.length
  rw [fJ] at hb
  refine hS (knd:=intKind W.prog W.w) (dn W k' t) (jK g) (λh' hd hs=>?_) (bj n1)
  obtain ⟨ep',hd'⟩:=hd.dictAt
  exact ⟨h',_,rfl,hs,.dI hd' (by w_fin) (p1.trans (List.map_id _)) (p2.sub (sub hs)) q⟩
 | list xs=>exact sN hl
 | _=>exact nS h
theorem kD {A a d dk dv d' k v} (hc:aB W s.heap (fz W s.heap (aq B κ ω)) a d) (ha:a∈aq B κ ω) (hk:Data W (fz W s.heap (aq B κ ω)) k dk) (hv:Data W (fz W s.heap (aq B κ ω)) v dv) (h:iZ d dk dv=some d'):
  wpAny W.M A (setItem (.ref a) k v) (λU s'=>∃ h' tk,s'={ s with heap:=h',toks:=tk }/\Heap.SameBut a s.heap h'/\aB W h' (fz W h' (aq B κ ω)) a d') (λU U=>False) s:=by
 cases hl:pA d with
 | none=>exact p7 hc ha hk hv h hl λa b c d=>wpAny_setItem_pairs a b c d
 | some xs=>
  obtain rfl:=cO hl
  obtain ⟨k',e,h⟩:=ah h
  obtain rfl:=aJ e
  obtain ⟨hl,h⟩:=bI h
  w_cond h
  cases hk using Data.intE with | mk t=>
  cases hc using aB.listE with | mk _ _ g n1 b=>
  have hb:=b.length
  exact pj g hl.1 (by have:=hl.2;unfold be at n1;w_fin) (by w_fin) λh' ep' e hs=>⟨h',s.toks,rfl,hs,.list e (by erw [List.length_set];exact n1) ((b.sub (gU hs ha)).set _ (hv.sub (gU hs ha)))⟩
noncomputable def jx (j:Nat) (g:PV->Option PV) (st:List SV):Option (List SV×Fl):=(FW (cn st j)).bind λd=>(g d).map λd'=>(fV st j (.own d'),.next)
theorem iX {j g st out} (h:jx j g st=some out):∃ d d',st[j]? =some (.own d)/\g d=some d'/\out=(st.set j (.own d'),.next):=by
 obtain ⟨d,e,h⟩:=ah h
 obtain ⟨d',h1,rfl⟩:=(aA h:_)
 rw [bV] at e
 exact ⟨d,d',uJ e,h1,by rw [b7]⟩
theorem lh (x:aR W fc env κ B ω st s m cm) {i:Nat} {xk a d} (hi:st[i]? =some (.own d)) (hn:fc.names[i]? =some xk) (hv:bp m cm xk=some (.ref a)):a∈aq B κ ω:=
 lR _ (lR _ (x.oω i d xk a hi hn hv))
noncomputable def Il (j:Nat) (fi fv:List SV->Option SV) (st:List SV):Option (List SV×Fl):=(de fv st).bind λv=>(de fi st).bind λk=>jx j (λd=>iZ d k v) st
theorem jO {y} {py p' pos:Pos} {i value fi fv} (j) (hw:bv fc y j=true) (hi:SE W n fc i fi) (hv:SE W n fc value fv) (hs:∀ env,swapsWith value (some (.Subscript (.Name y py) i p')) pos.line env=pure false:=by w_left):
  SX W n fc (.Assign [.Subscript (.Name y py) i p'] value pos) (Il j fi fv):=by
 intro A env κ B ω st s out hA x h
 obtain ⟨dv,h1,h⟩:=ah h
 obtain ⟨dk,h2,h⟩:=ah h
 obtain ⟨d,d',h3,h4,rfl⟩:=iX h
 refine wpAny_Assign_Subscript (wpAny_mono (hv A env κ B ω st s _ hA x (aT h1)) (λv s₁ z1=>?_) λU U q=>q) (hs env)
 have x₁:=x.gr z1.2
 obtain ⟨m,cm,y₁⟩:=x₁
 obtain ⟨xk,a,e1,e2,e3,c,ld⟩:=dE y₁ hw h3
 refine ld _ _ _ _ _ (wpAny_mono (hi A env κ B ω st s₁ _ hA ⟨m,cm,y₁⟩ (aT h2)) (λiv s₂ z2=>?_) λU U q=>q)
 have y₂:=y₁.gr z2.2
 have ha:=lh y₂ h3 e1 e3
 obtain ⟨o,ho,hd⟩:=c.ex
 have c₂:aB W s₂.heap (fz W s₂.heap (aq B κ ω)) a d:=c.move (λo e=>z2.2.kp _ _ (y₁.gi.notin ho hd) e) (bo _ z2.2.kp)
 have v₂:Data W (fz W s₂.heap (aq B κ ω)) v dv:=Data.sub (bo _ z2.2.kp) z1.1
 refine wpAny_mono (kD c₂ ha z2.1 v₂ h4) (λU s₃ z3=>?_) λU U q=>q
 obtain ⟨h',tk,rfl,hsb,c₃⟩:=z3
 obtain ⟨y₃,g₃⟩:=y₂.updOwn (tk:=tk) h3 e1 e2 e3 hsb c₂ c₃
 exact bf.of_gr (z1.2.trans z2.2) (bf.of_inv rfl g₃ ⟨m,cm,y₃⟩ λb hb=> .inl hb)
noncomputable def Hl:PV->PV->Option PV
 | .int a,.int b=>some (.int (a + b))
 | _,_=>none
theorem la:tj W (inplaceOp .Add) Hl:=by
 intro A s μ a b da db r hA g ex ha hb h
 cases da with
 | int i=>
  cases db with
  | int j=>
   obtain ⟨t,rfl⟩:=ha.intI;obtain ⟨u,rfl⟩:=hb.intI
   w_cond h
   exact wpAny_iadd_int ⟨.int _ _,Gr.tok _⟩
  | _=>w_cond h
 | _=>cases db <;> w_cond h
noncomputable def Hm:PV->PV->Option PV
 | .int a,.int b=>some (.int (a - b))
 | _,_=>none
theorem BT:tj W (inplaceOp .Sub) Hm:=by
 intro A s μ a b da db r hA g ex ha hb h
 cases da with
 | int i=>
  cases db with
  | int j=>
   obtain ⟨t,rfl⟩:=ha.intI;obtain ⟨u,rfl⟩:=hb.intI
   w_cond h
   exact isub_int ⟨.int _ _,Gr.tok _⟩
  | _=>w_cond h
 | _=>cases db <;> w_cond h
noncomputable def GH (fc:FC) (j:Nat) (fop:PV->PV->Option PV) (fv:List SV->Option SV) (st:List SV):Option (List SV×Fl):=(dy (rd st j)).bind λa=>(de fv st).bind λb=>(fop a b).map λr=>(cF fc st j (.d r),.next)
theorem wK {y p pos op value fop fv} (j) (hw:eV fc y j=true) (hr:bv fc y j=true) (ho:tj W (inplaceOp op) fop) (hv:SE W n fc value fv):
  SX W n fc (.AugAssign (.Name y p) op value pos) (GH fc j fop fv):=by
 intro A env κ B ω st s out hA x h
 ·obtain ⟨a,e,h⟩:=ah h
  obtain ⟨b,h1,h⟩:=ah h
  obtain ⟨r,h2,rfl⟩:=(aA h:_)
  obtain ⟨v,hvr,ld⟩:=cJ x hr (c7 e)
  refine wpAny_AugAssign_Name (ld _ _ _ _ (wpAny_mono (hv A env κ B ω st s _ hA x (aT h1)) (λw s₁ z=>?_) λU U q=>q))
  have x₁:=x.gr z.2
  refine wpAny_mono (ho A s₁ (aq B κ ω) v w a b r (hA.le (Nat.zero_le _)) x₁.gi x₁.ex (.inl (Data.sub (bo _ z.2.kp) hvr)) (.inl z.1) h2) (λu s₂ z2=>?_) λU U q=>q
  obtain ⟨m,cm,x₂⟩:=x₁.gr z2.2
  exact wpAny_mono (cu (sv:= .d r) hw x₂ z2.1 (λf e=>by w_cond e) λd a e=>by w_cond e) (λU s₃ w=>bf.of_gr (z.2.trans z2.2) (bf.of_inv rfl w.2 w.1 λb hb=> .inl hb)) λU U q=>q
theorem iH {M A E s env o i pos' op value pos} {Q:Flow->Shared->Prop} (hi:∀ ov iv new,augStore i ov iv new=(do holding [new,ov,iv] (setItem ov iv new);release [new,ov,iv] [];pure .next)) (h:wpAny M A (eval o env) (λov s₁=>wpAny M A (eval i env) (λiv s₂=>wpAny M A (getItem ov iv) (λold s₃=>wpAny M A (eval value env) (λv s₄=>wpAny M A (inplaceOp op old v) (λnew s₅=>wpAny M A (setItem ov iv new) (λU=>Q .next) E s₅) E s₄) E s₃) E s₂) E s₁) E s):
  wpAny M A (exec (.AugAssign (.Subscript o i pos') op value pos) env) Q E s:=by
 rw [arm_exec_AugAssign_3]
 refine wpAny_bind (wpAny_standAt (wpAny_bind (wpAny_mono h (λov s₁ h₁=>?_) λU U q=>q)))
 refine wpAny_bind (wpAny_holding (wpAny_mono h₁ (λiv s₂ h₂=>?_) λU U q=>q))
 refine wpAny_bind (wpAny_holding (wpAny_bind (wpAny_standAt (wpAny_bind (wpAny_mono h₂ (λold s₃ h₃=>?_) λU U q=>q)))))
 refine wpAny_bind (wpAny_holding (wpAny_mono h₃ (λv s₄ h₄=>?_) λU U q=>q))
 refine wpAny_bind (wpAny_standAt (wpAny_operate' (wpAny_mono h₄ (λnew s₅ h₅=>?_) λU U q=>q)))
 refine wpAny_bind (wpAny_standAt ?_)
 rw [hi]
 exact wpAny_bind (wpAny_holding (wpAny_mono h₅ (λU s₆ q=>wpAny_bind (wpAny_release' (wpAny_pure q))) λU U q=>q))
noncomputable def CT (j:Nat) (fop:PV->PV->Option PV) (fi fv:List SV->Option SV) (st:List SV):Option (List SV×Fl):=(de fi st).bind λk=>(de fv st).bind λv=>jx j (λd=>(a8 d k).bind λold=>(fop old v).bind λnew=>iZ d k new) st
theorem pE {y py pos' pos op i value fop fi fv} (j) (hw:bv fc y j=true) (ho:tj W (inplaceOp op) fop) (hi:SE W n fc i fi) (hv:SE W n fc value fv) (hg:∀ ov iv new,augStore i ov iv new=(do holding [new,ov,iv] (setItem ov iv new);release [new,ov,iv] [];pure .next):=by intro _ _ _;rfl):
  SX W n fc (.AugAssign (.Subscript (.Name y py) i pos') op value pos) (CT j fop fi fv):=by
 intro A env κ B ω st s out hA x h
 obtain ⟨dk,h1,h⟩:=ah h
 obtain ⟨dv,h2,h⟩:=ah h
 obtain ⟨d,d',h3,h4,rfl⟩:=iX h
 obtain ⟨old,h5,h4⟩:=ah h4
 obtain ⟨new,h6,h4⟩:=ah h4
 obtain ⟨m,cm,y₁⟩:=x
 obtain ⟨xk,a,e1,e2,e3,c,ld⟩:=dE y₁ hw h3
 obtain ⟨o,ho',hd⟩:=c.ex
 have ha:=lh y₁ h3 e1 e3
 refine iH hg (ld _ _ _ _ _ (wpAny_mono (hi A env κ B ω st s _ hA ⟨m,cm,y₁⟩ (aT h1)) (λiv s₁ z1=>?_) λU U q=>q))
 have y₂:=y₁.gr z1.2
 have c₁:aB W s₁.heap (fz W s₁.heap (aq B κ ω)) a d:=c.move (λo e=>z1.2.kp _ _ (y₁.gi.notin ho' hd) e) (bo _ z1.2.kp)
 refine wpAny_mono (qk y₂.gi (.inr ⟨a,rfl,c₁⟩) (.inl z1.1) h5) (λov s₂ z2=>?_) λU U q=>q
 have y₃:=y₂.gr z2.2
 refine wpAny_mono (hv A env κ B ω st s₂ _ hA ⟨m,cm,y₃⟩ (aT h2)) (λv s₃ z3=>?_) λU U q=>q
 have y₄:=y₃.gr z3.2
 refine wpAny_mono (ho A s₃ (aq B κ ω) ov v old dv new (hA.le (Nat.zero_le _)) y₄.gi y₄.ex (.inl (Data.sub (bo _ z3.2.kp) z2.1)) (.inl z3.1) h6) (λu s₄ z4=>?_) λU U q=>q
 have y₅:=y₄.gr z4.2
 have g:=z1.2.trans (z2.2.trans (z3.2.trans z4.2))
 have c₂:aB W s₄.heap (fz W s₄.heap (aq B κ ω)) a d:=c.move (λo e=>g.kp _ _ (y₁.gi.notin ho' hd) e) (bo _ g.kp)
 have k₂:Data W (fz W s₄.heap (aq B κ ω)) iv dk:=Data.sub (bo _ (z2.2.trans (z3.2.trans z4.2)).kp) z1.1
 refine wpAny_mono (kD c₂ ha k₂ z4.1 h4) (λU s₅ z5=>?_) λU U q=>q
 obtain ⟨h',tk,rfl,hsb,c₃⟩:=z5
 obtain ⟨y₆,g₆⟩:=y₅.updOwn (tk:=tk) h3 e1 e2 e3 hsb c₂ c₃
 exact bf.of_gr g (bf.of_inv rfl g₆ ⟨m,cm,y₆⟩ λb hb=> .inl hb)
noncomputable def GF (j:Nat) (fv:List SV->Option SV) (st:List SV):Option (List SV×Fl):=(de fv st).bind λv=>jx j (λd=>(pA d).bind λxs=>b9 (xs++[v])) st
theorem fM {y} {py apos cpos pos:Pos} {e fv} (j) (hw:bv fc y j=true) (hv:SE W n fc e fv) (hbase:∀ env,attributeBase (.Name y py) "append" env (eval (.Name y py) env)=eval (.Name y py) env:=by w_left) (hfew:∀ env,((backTo cpos (starEach [e] env)).all (λx=>!x.1)&&(backToKw cpos (keywordEach [] env)).all (λx=>x.1.isSome)&&decide (([e]:List Expr).length + ([]:List Keyword).length + (if ([]:List Keyword).isEmpty then 0 else 1)<30))=true:=by w_left) (hline:(apos.endLine==cpos.line)=true:=by rfl) (htrees:∀ env,backTo cpos (starEach [e] env)=[(false,eval e env)]:=by w_left) (hs:∀ env,swapsWith (.Call (.Attribute (.Name y py) "append" apos) [e] [] cpos) none pos.line env=pure false:=by w_left):
  SX W n fc (.Expr (.Call (.Attribute (.Name y py) "append" apos) [e] [] cpos) pos) (GF j fv):=by
 intro A env κ B ω st s out hA x h
 obtain ⟨dv,h1,h⟩:=ah h
 obtain ⟨d,d',h3,h4,rfl⟩:=iX h
 obtain ⟨m,cm,y₁⟩:=x
 obtain ⟨xk,a,e1,e2,e3,c,ld⟩:=dE y₁ hw h3
 obtain ⟨xs,e5,h4⟩:=ah h4
 obtain rfl:=cO e5
 obtain ⟨hl,h4⟩:=bI h4
 w_cond h4
 cases c using aB.listE with | mk vs ep g n1 b=>
 refine wpAny_Expr_any (wpAny_Call_append (hbase env) (hfew env) hline (htrees env) (ld _ _ _ _ _ ⟨a,_,rfl,⟨_,_,g,rfl,rfl,rfl⟩,wpAny_mono (hv A env κ B ω st s _ hA ⟨m,cm,y₁⟩ (aT h1)) (λv s₁ z=>?_) λU U q=>q⟩)) (by unfold interactive;erw [y₁.eo.kind];rfl) (hs env)
 have y₂:=y₁.gr z.2
 have ha:=lh y₂ h3 e1 e3
 have g₂:=z.2.kp _ _ (y₁.gi.notin g λvs q=>by w_cond q) g
 refine call_meets slot_list_append ⟨_,g₂,rfl⟩ entry_list_append (args_list_append _ _) (PySem.list_append a _ _ v (by rw [List.size_toArray];exact bj n1)) ⟨g₂,?_⟩
 obtain ⟨ep',e'⟩:=fY (us:=vs++[v]) g₂ (λx_1=>x_1.push v) (by simp)
 have hsb:Heap.SameBut a s₁.heap (s₁.heap.update a (Obj.mapSeq λx_1=>x_1.push v)):=Heap.SameBut.update ..
 have hb:=b.length
 rw [jt] at hl
 have sub:=gU hsb ha
 obtain ⟨y₃,g₃⟩:=y₂.updOwn (tk:=s₁.toks) h3 e1 e2 e3 hsb (aB.list (F:=fz W s₁.heap (aq B κ ω)) g₂ n1 (b.sub (bo _ z.2.kp))) (aB.list e' (by rw [jt,hb];exact hl) (((b.sub (bo _ z.2.kp)).sub sub).snoc (z.1.sub sub)))
 exact bf.of_gr z.2 (bf.of_inv rfl g₃ ⟨m,cm,y₃⟩ λb hb=> .inl hb)
noncomputable def CF (ft:List SV->Option Bool) (fb:List SV->Option (List SV×Fl)):Nat->List SV->Option (List SV×Fl)
 | 0,_=>none
 | k+1,st=>(ft st).bind λb=>if b then (match fb st with
   | some (st',.next)=>CF ft fb k st'
   | some (st',.brk)=>some (st',.next)
   | r=>r) else some (st,.next)
theorem bf.brk_next {out fl s'} (y:bf W fc env κ B ω s (out,.brk) fl s'):fl= .brk/\bf W fc env κ B ω s (out,.next) .next s':=⟨y.2.1,y.1,rfl,y.2.2⟩
theorem kU {t body pos ft fb} (k) (ht:ST W n fc t ft) (hb:SS W n fc body fb):SX W n fc (.While t body [] pos) (CF ft fb k):=by
 intro A env κ B ω st s out hA x h
 refine wpAny_While ?_
 refine codeAny_whileLoop (λj s₁=>∃ st₁ ω₁,bD W fc env κ B ω₁ st₁ s₁/\CF ft fb j st₁=some out/\bR W κ ω s s₁/\∀ b∈ω₁,b∈ω∨s.heap.get? b=none) (λj s₁ hI=>?_) k ⟨st,ω,x,h,bR.refl _ _ _ _,λb hb=> .inl hb⟩
 obtain ⟨st₁,ω₁,x₁,h₁,g₁,hω⟩:=hI
 cases j with
 | zero=>w_cond h₁
 | succ j=>
  obtain ⟨b,e1,e2⟩:=ah h₁
  refine wpAny_mono (ht A env κ B ω₁ st₁ s₁ b hA x₁ e1) (λb' s₂ y=>?_) λU U q=>q.elim
  clear e1;(try clear h);(try clear h₁);obtain ⟨rfl,k2⟩:=y
  haveI x₂:=x₁.gr k2
  have g₂:=g₁.trans hω (bR.of_gr (κ:=κ) (ω:=ω₁) k2)
  cases b' with
  | false=>
   w_cond e2
   exact wpAny_execs_nil (bf.of_inv rfl g₂ x₂ hω)
  | true=>
   cases e3:fb st₁ with
   | none=>erw [e3] at e2;w_cond e2
   | some o=>
    obtain ⟨st',fl⟩:=o
    erw [e3] at e2
    refine wpAny_mono (hb A env κ B ω₁ st₁ s₂ (st',fl) hA x₂ e3) (λfl' s₃ y=>?_) λU U q=>q.elim
    cases fl with
    | next=>
     obtain ⟨g3,rfl,ω',x',hω'⟩:=y
     refine ⟨j,Nat.lt_succ_self j,st',ω',x',e2,g₂.trans hω g3,λb hb=>?_⟩
     rcases hω' b hb with q | q
     ·exact hω b q
     ·exact .inr (g₂.dom b q)
    | brk=>
     w_cond e2
     obtain ⟨rfl,y2⟩:=y.brk_next
     exact bf.step g₂ hω y2
    | ret sv=>
     w_cond e2
     obtain ⟨g3,v,rfl,y2⟩:=y
     exact ⟨g₂.trans hω g3,v,rfl,y2⟩
end
structure eX (W:Wd) (I:List Addr) (J:List Nat) (s s':Shared):Prop where
 kp:Kp (W.T++I) s.heap s'.heap
 gi:GI W s->GI W s'
 gens:∀ (i:Nat) (x:GenState),i∉J->s.gens[i]? =some x->s'.gens[i]? =some x
 os:s'.os=s.os
 dom:∀ b,b∉I->s'.heap.get? b=none->s.heap.get? b=none
theorem eX.of_gr {I J s s'} (x:Gr W s s'):eX W I J s s':=⟨x.kp.mono λU h=>cY _ h,x.gi,λi g U e=>x.gens i g e,x.os,λb U=>x.dom b⟩
noncomputable def cV (W:Wd) (n:Nat) (tgt:Expr) (Φ:Heap) (it:Value):List PV->List Addr->List Nat->Shared->Prop
 | [],I,J,s=>∀ (A:Around) (s₁:Shared),cf n A->GI W s₁->bF Φ s₁.heap->(∀ b∈I,∀ o,s.heap.get? b=some o->s₁.heap.get? b=some o)->(∀ j∈J,∀ x,s.gens[j]? =some x->s₁.gens[j]? =some x)->
   (∀ b,s₁.heap.get? b=none->s.heap.get? b=none)->
   wpAny W.M A (pyNext it) (λr s₂=>r=none/\eX W I J s₁ s₂) (λU U=>False) s₁
 | x::xs,I,J,s=>∀ (A:Around) (s₁:Shared),cf n A->GI W s₁->bF Φ s₁.heap->(∀ b∈I,∀ o,s.heap.get? b=some o->s₁.heap.get? b=some o)->(∀ j∈J,∀ x,s.gens[j]? =some x->s₁.gens[j]? =some x)->
   (∀ b,s₁.heap.get? b=none->s.heap.get? b=none)->
   wpAny W.M A (pyNext it) (λr s₂=>∃ v,r=some v/\wpAny W.M A (letOwnedTupleGo tgt it v) (λU s₃=>∃ I' J',(∀ μ,bF Φ (fz W s₁.heap μ)->Ex s₁ μ->(∀ b∈I,b∈μ)->Data W (fz W s₃.heap (I'++μ)) v x)/\eX W I J s₁ s₃/\
    (∀ b∈I',b∈I∨s₁.heap.get? b=none)/\iB s₃ I/\iB s₃ I'/\(∀ j∈J',j∈J∨s₁.gens[j]? =none)/\cV W n tgt Φ it xs I' J' s₃) (λU U=>False) s₂) (λU U=>False) s₁
section
variable {n:Nat} {fc:FC} {env:Env} {κ:List Addr} {B:aN} {ω:List Addr} {st:List SV} {s s':Shared} {m cm:Str->Option Value}
theorem aR.grI {I J} (x:aR W fc env κ B ω st s m cm) (k:eX W I J s s') (hI:∀ b∈I,b∈B.ν) (hE:iB s' I):aR W fc env κ B ω st s' m cm:=by
 have hIμ:∀ b∈I,b∈B.μ:=λb hb=>x.νμ b (hI b hb)
 have hωI:∀ b∈ω,b∉I:=λb hb q=>x.dj b hb (hIμ b q)
 have keep:∀ (b:Addr) (o:Obj),s.heap.get? b=some o->(∀ vs,o.data≠ .fields vs)->b∉I->s'.heap.get? b=some o:=λb o e hd ni=>k.kp b o (λq=>(aw q).elim (x.gi.notin e hd) ni) e
 have s1:∀ μ,(∀ b∈I,b∈μ)->bF (fz W s.heap μ) (fz W s'.heap μ):=λμ h=>ax λb o n1 n2 e=>⟨n2,k.kp b o (λq=>(aw q).elim n1 λq=>n2 (h b q)) e⟩
 have exs:Ex s' (aq B κ ω):=λb hb=>by
  obtain ⟨o,e⟩:=x.ex b hb
  by_cases q:b∈I
  ·exact hE.ex b q
  ·cases e':s'.heap.get? b with
   | none=>rw [k.dom b q e'] at e;w_cond e
   | some o=>exact ⟨o,rfl⟩
 have ncs:∀ b∈bw B ω,∀ o,s'.heap.get? b=some o->dq o:=λb hb o e=>by
  by_cases hT:b∈W.T
  ·exact dw (k.gi x.gi) hT e
  ·by_cases q:b∈I
   ·obtain ⟨o',e',hn⟩:=hE b q
    rw [e] at e';w_cond e';exact hn
   ·have hb':b∈aq B κ ω:=by
     simp only [bw,aq,List.mem_append] at hb ⊢
     exact hb.imp (x.νμ b) λh=> .inr h
    obtain ⟨o',e'⟩:=x.ex b hb'
    have:=k.kp b o' (λw=>(aw w).elim hT q) e'
    rw [e] at this;w_cond this
    exact x.nc b hb o e'
 exact { x with
  gi:=k.gi x.gi
  ns:=by
   obtain ⟨o,e,hd⟩:=aI x.ns
   exact x.ns.at' λo' e'=>by rw [e] at e';w_cond e';exact keep _ _ e hd (hωI _ x.lω)
  nc:=ncs
  cells:=λy c h=>by
   obtain ⟨o,e,hd⟩:=x.cells y c h
   exact ⟨o,keep _ _ e (λvs q=>by erw [hd] at q;w_cond q) (λq=>x.cν y c h (hI c q)),hd⟩
  vars:=λi sv h=>(x.vars i sv h).imp id λ⟨xk,v,a,b,c,d⟩=>⟨xk,v,a,b,c,d.move ⟨s1 _ λb hb=>cY _ (hIμ b hb),s1 _ λb hb=>cY _ (hI b hb)⟩
   λd' e1 a' e2 o e3 hd=>keep a' o e3 hd (by subst e1 e2;exact hωI _ (x.oω i d' xk a' h a c))⟩
  ex:=exs }
theorem bD.grI {I J} (x:bD W fc env κ B ω st s) (k:eX W I J s s') (hI:∀ b∈I,b∈B.ν) (hE:iB s' I):bD W fc env κ B ω st s':=let ⟨m,cm,y⟩:=x;⟨m,cm,y.grI k hI hE⟩
theorem aR.grI0 {I J} (x:aR W fc env κ ⟨I++B.μ,I++B.ν⟩ ω st s m cm) (k:eX W I J s s') (hν:∀ b∈B.ν,b∈B.μ) (hI:∀ b∈I,b∉B.μ):aR W fc env κ B ω st s' m cm:=by
 have hωI:∀ b∈ω,b∉I:=λb hb q=>x.dj b hb (cY _ q)
 have hκI:∀ b∈κ,b∉I:=λb hb q=>by
  obtain ⟨y,hy⟩:=x.κc b hb
  exact x.cν y b hy (cY _ q)
 have keep:∀ (b:Addr) (o:Obj),s.heap.get? b=some o->(∀ vs,o.data≠ .fields vs)->b∉I->s'.heap.get? b=some o:=λb o e hd ni=>k.kp b o (λq=>(aw q).elim (x.gi.notin e hd) ni) e
 have s1:∀ μ,bF (fz W s.heap (I++μ)) (fz W s'.heap μ):=λμ=>ax λb o n1 n2 e=>⟨λq=>n2 (lR _ q),k.kp b o (λq=>(aw q).elim n1 λq=>n2 (cY _ q)) e⟩
 have e1':aq ⟨I++B.μ,I++B.ν⟩ κ ω=I++aq B κ ω:=kr ..
 have e2':bw ⟨I++B.μ,I++B.ν⟩ ω=I++bw B ω:=kr ..
 exact { x with
  gi:=k.gi x.gi
  ns:=by
   obtain ⟨o,e,hd⟩:=aI x.ns
   exact x.ns.at' λo' e'=>by rw [e] at e';w_cond e';exact keep _ _ e hd (hωI _ x.lω)
  cells:=λy c h=>by
   obtain ⟨o,e,hd⟩:=x.cells y c h
   exact ⟨o,keep _ _ e (λvs q=>by erw [hd] at q;w_cond q) (λq=>x.cν y c h (cY _ q)),hd⟩
  νμ:=hν
  cν:=λy c h q=>x.cν y c h (lR _ q)
  vars:=λi sv h=>(x.vars i sv h).imp id λ⟨xk,v,a,b,c,d⟩=>⟨xk,v,a,b,c,d.move ⟨by rw [e1'];exact s1 _,by rw [e2'];exact s1 _⟩
   λd' q1 a' q2 o e3 hd=>keep a' o e3 hd (by subst q1 q2;exact hωI _ (x.oω i d' xk a' h a c))⟩
  dj:=λb hb q=>x.dj b hb (lR _ q)
  ex:=λb hb=>by
   obtain ⟨o,e⟩:=x.ex b (by rw [e1'];exact lR _ hb)
   have nI:b∉I:=λq=>by
    simp only [aq,List.mem_append] at hb
    rcases hb with h | h | h
    ·exact hI b q h
    ·exact hκI b h q
    ·exact hωI b h q
   cases e':s'.heap.get? b with
   | none=>rw [k.dom b nI e'] at e;w_cond e
   | some o=>exact ⟨o,rfl⟩
  nc:=λb hb o e=>by
   by_cases hT:b∈W.T
   ·exact dw (k.gi x.gi) hT e
   ·have hb1:b∈bw ⟨I++B.μ,I++B.ν⟩ ω:=by rw [e2'];exact lR _ hb
    have nI:b∉I:=λq=>by
     simp only [bw,List.mem_append] at hb
     rcases hb with h | h
     ·exact hI b q (hν b h)
     ·exact hωI b h q
    have hb':b∈aq ⟨I++B.μ,I++B.ν⟩ κ ω:=by
     simp only [bw,aq,List.mem_append] at hb1 ⊢
     rcases hb1 with (h | h) | h
     ·exact .inl (.inl h)
     ·exact .inl (.inr (hν b h))
     ·exact .inr (.inr h)
    obtain ⟨o',e'⟩:=x.ex b hb'
    have:=k.kp b o' (λw=>(aw w).elim hT nI) e'
    rw [e] at this;w_cond this
    exact x.nc b hb1 o e' }
theorem bD.grI0 {I J} (x:bD W fc env κ ⟨I++B.μ,I++B.ν⟩ ω st s) (k:eX W I J s s') (hν:∀ b∈B.ν,b∈B.μ) (hI:∀ b∈I,b∉B.μ):bD W fc env κ B ω st s':=let ⟨m,cm,y⟩:=x;⟨m,cm,y.grI0 k hν hI⟩
theorem bD.more' {I'} (x:bD W fc env κ B ω st s) {s₀} (x0:bD W fc env κ B ω st s₀) {I J} (k:eX W I J s₀ s) (hI:∀ b∈I,b∈B.ν) (hE:iB s I) (hn:∀ b∈I',s₀.heap.get? b=none) (he:iB s I'):
  bD W fc env κ ⟨I'++B.μ,I'++B.ν⟩ ω st s:=by
 obtain ⟨m,cm,y0⟩:=x0
 have y:=y0.grI k hI hE
 have hIμ:∀ b∈I,b∈B.μ:=λb hb=>y0.νμ b (hI b hb)
 have hωI:∀ b∈ω,b∉I:=λb hb q=>y0.dj b hb (hIμ b q)
 have nf:∀ b o,s₀.heap.get? b=some o->b∉I':=λb o e q=>by rw [hn b q] at e;w_cond e
 have s1:∀ μ,(∀ b∈I,b∈μ)->bF (fz W s₀.heap μ) (fz W s.heap (I'++μ)):=λμ h=>ax λb o n1 n2 e=>⟨λq=>(aw q).elim (nf b o e) n2,k.kp b o (λq=>(aw q).elim n1 λq=>n2 (h b q)) e⟩
 have e1':aq ⟨I'++B.μ,I'++B.ν⟩ κ ω=I'++aq B κ ω:=kr ..
 have e2':bw ⟨I'++B.μ,I'++B.ν⟩ ω=I'++bw B ω:=kr ..
 refine ⟨m,cm,{ y with
  νμ:=λb hb=>(aw hb).elim (λh=>cY _ h) λh=>lR _ (y.νμ b h)
  cν:=λz c h q=>by
   rcases aw q with q | q
   ·obtain ⟨o,e,_⟩:=y0.cells z c h
    exact nf c o e q
   ·exact y.cν z c h q
  vars:=λi sv h=>(y0.vars i sv h).imp id λ⟨xk,v,a,b,c,d⟩=>⟨xk,v,a,b,c,d.move ⟨(s1 _ λb hb=>cY _ (hIμ b hb)).trans (aG λb hb=>e1' ▸ hb),(s1 _ λb hb=>cY _ (hI b hb)).trans (aG λb hb=>e2' ▸ hb)⟩
   λd' e1 a' e2 o e3 hd=>k.kp a' o (λq=>(aw q).elim (y0.gi.notin e3 hd) (by subst e1 e2;exact hωI _ (y0.oω i d' xk a' h a c))) e3⟩
  dj:=λb hb q=>by
   rcases aw q with q | q
   ·obtain ⟨o,e⟩:=y0.ex b (lR _ (lR _ hb))
    exact nf b o e q
   ·exact y.dj b hb q
  ex:=λb hb=>by
   simp only [aq,List.mem_append] at hb
   rcases hb with (hb | hb) | hb
   ·exact he.ex b hb
   ·exact y.ex b (by simp only [aq,List.mem_append];exact .inl hb)
   ·exact y.ex b (by simp only [aq,List.mem_append];exact .inr hb)
  nc:=λb hb o e=>by
   simp only [bw,List.mem_append] at hb
   rcases hb with (hb | hb) | hb
   ·obtain ⟨o',e',hn⟩:=he b hb
    rw [e] at e';w_cond e';exact hn
   ·exact y.nc b (by simp only [bw,List.mem_append];exact .inl hb) o e
   ·exact y.nc b (by simp only [bw,List.mem_append];exact .inr hb) o e }⟩
theorem cV.move {tgt Φ it xs I J} (x:cV W n tgt Φ it xs I J s) (h1:∀ b∈I,∀ o,s.heap.get? b=some o->s'.heap.get? b=some o) (h2:∀ j∈J,∀ g,s.gens[j]? =some g->s'.gens[j]? =some g) (h3:∀ b,s'.heap.get? b=none->s.heap.get? b=none):cV W n tgt Φ it xs I J s':=by
 cases xs with
 | nil=>exact λA s₁ a b c d e f=>x A s₁ a b c (λb hb o q=>d b hb o (h1 b hb o q)) (λj hj g q=>e j hj g (h2 j hj g q)) λb q=>h3 b (f b q)
 | cons y ys=>exact λA s₁ a b c d e f=>x A s₁ a b c (λb hb o q=>d b hb o (h1 b hb o q)) (λj hj g q=>e j hj g (h2 j hj g q)) λb q=>h3 b (f b q)
theorem bR.fz {ω':List Addr} {μ} (x:bR W κ ω s s') (h:∀ b∈κ++ω,b∈μ):bF (fz W s.heap μ) (fz W s'.heap μ):=ax λb o n1 n2 e=>⟨n2,x.kp b o (λq=>(aw q).elim n1 λq=>n2 (h b q)) e⟩
def tm (W:Wd) (fc:FC) (e:Expr) (f:List SV->PV->Option (List SV)):Prop:=
 ∀ (A:Around) (env:Env) (κ:List Addr) (B:aN) (ω:List Addr) (st:List SV) (s:Shared) (v:Value) (d:PV) (st':List SV),A.handled=none->bD W fc env κ B ω st s->Data W (fz W s.heap (aq B κ ω)) v d->f st d=some st'->
  wpAny W.M A (assign e env v) (PI W fc env κ B ω st' s) (λU U=>False) s
def IM (W:Wd) (fc:FC) (es:List Expr) (f:List SV->List PV->Option (List SV)):Prop:=
 ∀ (A:Around) (env:Env) (κ:List Addr) (B:aN) (ω:List Addr) (st:List SV) (s:Shared) (vs:List Value) (ds:List PV) (st':List SV),A.handled=none->bD W fc env κ B ω st s->ae W (fz W s.heap (aq B κ ω)) vs ds->f st ds=some st'->
  wpAny W.M A (assignInOrder ((assignEach es env).map (·.2)) vs) (PI W fc env κ B ω st' s) (λU U=>False) s
theorem ay {y p} (i) (hw:eV fc y i=true):tm W fc (.Name y p) (λst d=>some (cF fc st i (.d d))):=by
 intro A env κ B ω st s v d st' hA x hv h
 w_cond h
 obtain ⟨m,cm,y⟩:=x
 exact wpAny_assign_Name (cu (sv:= .d d) hw y hv (λf e=>by w_cond e) λd a e=>by w_cond e)
noncomputable def Bx (st:List SV):List PV->Option (List SV)
 | []=>some st
 | _::_=>none
theorem rD:IM W fc [] Bx:=by
 intro A env κ B ω st s vs ds st' hA x hv h
 cases ds with
 | nil=>
  w_cond h
  w_cond hv
  exact wpAny_assignInOrder_none ⟨x,bR.refl _ _ _ _⟩
 | cons d ds=>w_cond h
noncomputable def qi (f:List SV->PV->Option (List SV)) (g:List SV->List PV->Option (List SV)) (st:List SV):List PV->Option (List SV)
 | d::ds=>(f st d).bind λst'=>g st' ds
 | []=>none
theorem c9 {e es f g} (hf:tm W fc e f) (hg:IM W fc es g) (he:∀ env,assignEach (e::es) env=(false,assign e env)::assignEach es env:=by w_left):
  IM W fc (e::es) (qi f g):=by
 intro A env κ B ω st s vs ds st' hA x hv h
 cases ds with
 | nil=>w_cond h
 | cons d ds=>
  obtain ⟨st₁,h1,h2⟩:=(ah h:_)
  obtain ⟨v,us,rfl,d1,d2⟩:=hv.cons_inv
  erw [he]
  refine wpAny_assignInOrder_more (wpAny_mono (hf A env κ B ω st s v d st₁ hA x d1 h1) (λU s₁ z=>?_) λU U q=>q)
  refine wpAny_mono (hg A env κ B ω st₁ s₁ us ds st' hA z.1 (d2.sub (z.2.fz (ω':=ω) λb hb=>lR _ hb)) h2) (λU s₂ w=>?_) λU U q=>q
  exact ⟨w.1,z.2.trans (λb hb=> .inl hb) w.2⟩
noncomputable def EA (g:List SV->List PV->Option (List SV)) (st:List SV):PV->Option (List SV)
 | .tuple ds=>g st ds
 | _=>none
theorem n8 {es:List Expr} {k:Nat} {p:Pos} {g:List SV->List PV->Option (List SV)} (l:Nat) (hg:IM W fc es g) (hl:∀ st ds st',g st ds=some st'->ds.length=l) (hn:∀ env,(assignEach es env).length=l:=by w_left) (hstar:∀ env,(assignEach es env).findIdx? (·.1)=none:=by w_left):
  tm W fc (.Tuple es k p) (EA g):=by
 intro A env κ B ω st s v d st' hA x hv h
 cases d with
 | tuple ds=>
  cases hv using Data.tupleE with | mk a vs ep e n1 b=>
  refine wpAny_assign_Tuple hA ⟨_,av _ _ _ _ _ e,rfl,_,rfl⟩ (by erw [hn,List.size_toArray,b.length,hl _ _ _ h]) (hstar env) λh' hx=>?_
  haveI k1:bF s.heap h':=λb o e=>hx b o (by rintro rfl;rw [aK] at e;w_cond e) e
  have g1:Gr W s { s with heap:=h' }:=Gr.of_sub k1
  exact wpAny_mono (hg A env κ B ω st _ vs ds st' hA (x.gr g1) (b.sub (bo _ g1.kp)) h) (λU s₂ w=>⟨w.1,(bR.of_gr g1).trans (λb hb=> .inl hb) w.2⟩) λU U q=>q
 | _=>w_cond h
def DQ (W:Wd) (Φ:Heap) (it:Value) (I:List Addr) (s:Shared):Prop:=∀ (A:Around) (s':Shared) (Q:Value->Shared->Prop) (E:Value->Shared->Prop),A.handled=none->bF Φ s'.heap->(∀ b∈I,∀ o,s.heap.get? b=some o->s'.heap.get? b=some o)->Q it s'->wpAny W.M A (pyIter it) Q E s'
abbrev vi (W:Wd) (n:Nat) (tgt:Expr) (s:Shared) (μ:List Addr) (xs:List PV) (it:Value) (s₂:Shared):Prop:=
 ∃ I J Φ,Gr W s s₂/\bF Φ (fz W s₂.heap (I++μ))/\(∀ b∈I,s.heap.get? b=none)/\iB s₂ I/\(∀ j∈J,s.gens[j]? =none)/\cV W n tgt Φ it xs I J s₂/\DQ W Φ it I s₂
abbrev jM (W:Wd) (n:Nat) (tgt:Expr) (A:Around) (s:Shared) (μ:List Addr) (xs:List PV) (x:Value) (s₁:Shared):Prop:=
 wpAny W.M A (pyIter x) (vi W n tgt s μ xs) (λU U=>False) s₁
def wh (W:Wd) (n:Nat) (fc:FC) (tgt:Expr) (e:Expr) (f:List SV->Option (List PV)):Prop:=
 ∀ (A:Around) (env:Env) (κ:List Addr) (B:aN) (ω:List Addr) (st:List SV) (s:Shared) (xs:List PV),cf n A->bD W fc env κ B ω st s->f st=some xs->
  wpAny W.M A (eval e env) (jM W n tgt A s (aq B κ ω) xs) (λU U=>False) s
noncomputable def d7 (ftg:List SV->PV->Option (List SV)) (fb:List SV->Option (List SV×Fl)):List PV->List SV->Option (List SV×Fl)
 | [],st=>some (st,.next)
 | x::xs,st=>(ftg st x).bind λst1=>match fb st1 with
   | some (st',.next)=>d7 ftg fb xs st'
   | some (st',.brk)=>some (st',.next)
   | r=>r
theorem bf.base {I out fl} (hν:∀ b∈B.ν,b∈B.μ) (y:bf W fc env κ ⟨I++B.μ,I++B.ν⟩ ω s out fl s'):bf W fc env κ B ω s out fl s':=by
 refine ⟨y.1,?_⟩
 haveI y2:=y.2
 haveI h1:∀ b∈B.μ,b∈I++B.μ:=λb hb=>lR _ hb
 haveI h2:∀ b∈B.ν,b∈I++B.ν:=λb hb=>lR _ hb
 cases e:out.2 with
 | next=>rw [e] at y2;exact ⟨y2.1,let ⟨ω'',a,b⟩:=y2.2;⟨ω'',a.less h1 h2 hν,b⟩⟩
 | brk=>rw [e] at y2;exact ⟨y2.1,let ⟨ω'',a,b⟩:=y2.2;⟨ω'',a.less h1 h2 hν,b⟩⟩
 | ret sv=>rw [e] at y2;exact let ⟨v,a,b,c⟩:=y2;⟨v,a,b.move ⟨aG h1,aG h2⟩ λU U U U U e U=>e,c⟩
theorem bR.grI {I J s₀} (x:bR W κ ω s₀ s) (k:eX W I J s s') (hI:∀ b∈I,s₀.heap.get? b=none) (hJ:∀ j∈J,s₀.gens[j]? =none):bR W κ ω s₀ s':=
 ⟨λb o nb e=>k.kp b o (λq=>(aw q).elim (λq=>nb (cY _ q)) λq=>by rw [hI b q] at e;w_cond e) (x.kp b o nb e),
  λi g e=>k.gens i g (λq=>by rw [hJ i q] at e;w_cond e) (x.gens i g e),k.os.trans x.os,λb e=>by
   by_cases q:b∈I
   ·exact hI b q
   ·exact x.dom b (k.dom b q e)⟩
theorem gV {s s':Shared} (h:∀ (i:Nat) (x:GenState),s.gens[i]? =some x->s'.gens[i]? =some x) {j:Nat} (e:s'.gens[j]? =none):s.gens[j]? =none:=by
 cases q:s.gens[j]? with
 | none=>rfl
 | some g=>erw [h j g q] at e;w_cond e
theorem bD.apartI (x:bD W fc env κ B ω st s) {b} (hb:b∈B.ν) (hT:b∉W.T):b∉W.T++(κ++ω):=λq=>by
 obtain ⟨mm,cc,x⟩:=x
 rcases aw q with q | q
 ·exact hT q
 ·rcases aw q with q | q
  ·obtain ⟨z,hz⟩:=x.κc b q
   exact x.cν z b hz hb
  ·exact x.dj b q (x.νμ b hb)
def DK (W:Wd) (n:Nat) (fc:FC) (env:Env) (κ:List Addr) (B:aN) (ω:List Addr) (s:Shared) (tgt:Expr) (Φ:Heap) (it:Value) (R:List PV->List SV->Prop) (k:Nat) (s₃:Shared):Prop:=
 ∃ xs st₁ ω₁ I J,k=xs.length+1/\bD W fc env κ ⟨I++B.μ,I++B.ν⟩ ω₁ st₁ s₃/\cV W n tgt Φ it xs I J s₃/\bF Φ (fz W s₃.heap (aq ⟨I++B.μ,I++B.ν⟩ κ ω₁))/\R xs st₁/\
   bR W κ ω s s₃/\(∀ b∈ω₁,b∈ω∨s.heap.get? b=none)/\(∀ b∈I,s.heap.get? b=none)/\(∀ j∈J,s.gens[j]? =none)
theorem el {tgt iter body pos ftg fb fi} (hi:wh W n fc tgt iter fi) (ht:tm W fc tgt ftg) (hb:SS W n fc body fb) (hs:∀ env x,foldedSetIterable iter env x=pure x:=by w_left):
  SX W n fc (.For tgt iter body [] pos) (λst=>(fi st).bind λxs=>d7 ftg fb xs st):=by
 intro A env κ B ω st s out hA x h
 obtain ⟨xs,h1,h2⟩:=ah h
 refine wpAny_For (wpAny_mono (hi A env κ B ω st s xs hA x h1) (λv s₁ y=>wpAny_mono y (λit s₂ z=>?_) λU U q=>q) λU U q=>q) (hs env)
 obtain ⟨I,J,Φ,g,hΦ,hI,hEx,hJ,hit,_⟩:=z
 have hν:=x.νμ
 refine codeAny_forLoop_any (DK W n fc env κ B ω s tgt Φ it (λxs st=>d7 ftg fb xs st=some out)) (λk s₃ hk=>?_) (xs.length+1)
  ⟨xs,st,ω,I,J,rfl,x.more g I hI hEx,hit,hΦ.trans (aG λb hb=>by simpa [aq,kr] using hb),h2,bR.of_gr g,λb hb=> .inl hb,hI,hJ⟩
 obtain ⟨xs,st₁,ω₁,I,J,rfl,x₁,hit,hΦ,h2,g₁,hω,hI,hJ⟩:=hk
 have hΦ':bF Φ s₃.heap:=hΦ.trans (av _ _ _)
 have hIν:∀ b∈I,b∈(aN.mk (I++B.μ) (I++B.ν)).ν:=λb hb=>cY _ hb
 cases xs with
 | nil=>
  w_cond h2
  refine wpAny_mono (hit A s₃ hA x₁.gi hΦ' (λU U U e=>e) (λU U U e=>e) (λU e=>e)) (λr s₄ y=>?_) λU U q=>q.elim
  obtain ⟨rfl,k⟩:=y
  exact wpAny_execs_nil (bf.of_inv rfl (g₁.grI k hI hJ) (x₁.grI0 k hν λb hb q=>by obtain ⟨o,e⟩:=x.ex b (cY _ q);rw [hI b hb] at e;w_cond e) hω)
 | cons d xs=>
  obtain ⟨st₂,h3,h4⟩:=(ah h2:_)
  refine wpAny_mono (hit A s₃ hA x₁.gi hΦ' (λU U U e=>e) (λU U U e=>e) (λU e=>e)) (λr s₄ y=>?_) λU U q=>q.elim
  obtain ⟨v,rfl,y⟩:=y
  refine wpAny_mono y (λU s₅ y=>?_) λU U q=>q.elim
  obtain ⟨I',J',hd,k,hI',hEx,hEx',hJ',hit'⟩:=y
  have hfr:∀ b∈I',s.heap.get? b=none:=λb hb=>(hI' b hb).elim (hI b) λe=>g₁.dom b e
  haveI hfJ:∀ j∈J',s.gens[j]? =none:=λj hj=>(hJ' j hj).elim (hJ j) λe=>gV g₁.gens e
  haveI x₅:=x₁.grI k hIν hEx
  haveI hN:∀ b∈I'.filter (λb=>(s₃.heap.get? b).isNone),s₃.heap.get? b=none:=λb hb=>by simpa using (List.mem_filter.mp hb).2
  haveI x₆:=x₅.more' x₁ k hIν hEx hN λb hb=>hEx' b (List.mem_filter.mp hb).1
  haveI hsub:∀ b∈I',b∈I'.filter (λb=>(s₃.heap.get? b).isNone)++I:=λb hb=>by
   rcases hI' b hb with q | q
   ·exact lR _ q
   ·exact cY _ (List.mem_filter.mpr ⟨hb,by simp [q]⟩)
  haveI sm:∀ X,∀ b∈I'++X,b∈I'.filter (λb=>(s₃.heap.get? b).isNone)++(I++X):=λX b hb=>by
   rcases aw hb with q | q
   ·rcases aw (hsub b q) with q | q
    ·exact cY _ q
    ·exact lR _ (cY _ q)
   ·exact lR _ (lR _ q)
  have x₇:bD W fc env κ ⟨I'++B.μ,I'++B.ν⟩ ω₁ st₁ s₅:=x₆.less (sm _) (sm _) λb hb=>(aw hb).elim (λh=>cY _ h) λh=>lR _ (hν b h)
  haveI hΦ₅:bF Φ (fz W s₅.heap (aq ⟨I'++B.μ,I'++B.ν⟩ κ ω₁)):=hΦ.trans (ax λb o n1 n2 e=>by
   have nI:b∉I:=λq=>n2 (by simp only [aq,List.mem_append];exact .inl (.inl q))
   refine ⟨λq=>?_,k.kp b o (λq=>(aw q).elim n1 nI) e⟩
   simp only [aq,List.mem_append] at q n2
   rcases q with (q | q) | q
   ·rcases hI' b q with q | q
    ·exact nI q
    ·ctx_has q e
   ·exact n2 (.inl (.inr q))
   ·exact n2 (.inr q))
  haveI dv:Data W (fz W s₅.heap (aq ⟨I'++B.μ,I'++B.ν⟩ κ ω₁)) v d:=by
   refine Data.sub (aG λb hb=>?_) (hd (aq ⟨I++B.μ,I++B.ν⟩ κ ω₁) hΦ x₁.ex λb hb=>by simp only [aq,List.mem_append];exact .inl (.inl hb))
   simp only [aq,List.mem_append] at hb ⊢
   rcases hb with (q | q) | q
   ·exact .inl q
   ·exact .inr (.inl (.inr q))
   ·exact .inr (.inr q)
  refine wpAny_mono (ht A env κ _ ω₁ st₁ s₅ v d st₂ hA.hd x₇ dv h3) (λU s₆ w=>?_) λU U q=>q.elim
  obtain ⟨x₈,g₆⟩:=w
  cases e3:fb st₂ with
  | none=>erw [e3] at h4;w_cond h4
  | some o=>
   obtain ⟨st',fl⟩:=o
   erw [e3] at h4
   have gall:bR W κ ω s s₅:=g₁.grI k hI hJ
   have gall6:bR W κ ω s s₆:=gall.trans hω g₆
   refine wpAny_mono (hb A env κ _ ω₁ st₂ s₆ (st',fl) hA x₈ e3) (λfl' s₇ y=>?_) λU U q=>q.elim
   cases fl with
   | next=>
    obtain ⟨g7,rfl,ω',x',hω'⟩:=y
    have g67:bR W κ ω₁ s₅ s₇:=g₆.trans (λb hb=> .inl hb) g7
    haveI hnot:∀ b∈I',b∉W.T++(κ++ω₁):=λb hb=>x₇.apartI (cY _ hb) (x.gi.fresh (hfr b hb))
    refine ⟨xs.length+1,by simp,xs,st',ω',I',J',rfl,x',hit'.move (λb hb o e=>g67.kp b o (hnot b hb) e) (λj hj g e=>g67.gens j g e) g67.dom,?_,h4,gall.trans hω g67,λb hb=>?_,hfr,hfJ⟩
    ·refine hΦ₅.trans (ax λb o n1 n2 e=>⟨λq=>?_,g67.kp b o (λq=>(aw q).elim n1 λq=>n2 (lR _ q)) e⟩)
     simp only [aq,List.mem_append] at q n2
     rcases q with q | q | q
     ·exact n2 (.inl q)
     ·exact n2 (.inr (.inl q))
     ·rcases hω' b q with q | q
      ·exact n2 (.inr (.inr q))
      ·have:=g₆.dom b q
       ctx_has e this
    ·rcases hω' b hb with q | q
     ·exact hω b q
     ·exact .inr (gall6.dom b q)
   | brk=>
    w_cond h4
    obtain ⟨rfl,y2⟩:=y.brk_next
    exact bf.step gall6 hω (y2.base hν)
   | ret sv=>
    w_cond h4
    haveI y':=(bf.step gall6 hω y).base hν
    obtain ⟨a1,v,rfl,a2⟩:=y'
    exact ⟨a1,v,rfl,a2⟩
def eF (o:Obj):Prop:=o.cls≠ .none/\o.cls≠ .type "code"/\∀ vs q t,o.data= .fields vs->vs[1]? ≠some (.str q t)
theorem GI.updL {I:List Addr} {h':Heap} {tk} (g:GI W s) (hk:∀ b o,b∉I->s.heap.get? b=some o->h'.get? b=some o) (hI:∀ a∈I,W.G.get? a=none/\∃ oa,s.heap.get? a=some oa/\eF oa):GI W { s with heap:=h',toks:=tk }:=by
 refine ⟨g.ok,λb o e=>hk b o (λq=>by rw [(hI b q).1] at e;w_cond e) (g.top b o e),λt ht=>?_,g.bare⟩
 obtain ⟨ps,x,y,z⟩:=g.tab t ht
 have hP:t.2.1∉I:=λq=>by
  obtain ⟨oa,e,nc,_⟩:=(hI _ q).2
  have:=eE y
  rw [e] at this;w_cond this;exact nc rfl
 have hc:t.1∉I:=λq=>by
  obtain ⟨oa,e,_,nc,_⟩:=(hI _ q).2
  obtain ⟨o,vs,e1,e2,_⟩:=y.1
  rw [e] at e1;w_cond e1;exact nc e2
 refine ⟨ps,?_,?_,λpos c' e=>?_⟩
 ·obtain ⟨o,vs,file,tf,flags,tg,inF,text,tt,op,a,r1,r2,r3,r4,r5,r6,b,r⟩:=x
  exact ⟨o,vs,file,tf,flags,tg,inF,text,tt,op,hk _ _ hc a,r1,r2,r3,r4,r5,r6,hk _ _ hP b,r⟩
 ·obtain ⟨⟨o,vs,a,r⟩,b⟩:=y
  exact ⟨⟨o,vs,hk _ _ hc a,r⟩,hk _ _ hP b⟩
 ·obtain ⟨c,o,vs,t,e1,e2,e3,e4⟩:=z pos c' e
  refine ⟨c,o,vs,t,e1,hk _ _ (λq=>?_) e2,e3,e4⟩
  obtain ⟨oa,e5,_,_,nc⟩:=(hI _ q).2
  rw [e2] at e5;w_cond e5
  exact nc _ _ _ e3 e4
theorem eX.upd {I J} {h':Heap} {tk} (hk:∀ b o,b∉I->s.heap.get? b=some o->h'.get? b=some o) (hI:∀ a∈I,W.G.get? a=none/\∃ oa,s.heap.get? a=some oa/\eF oa):eX W I J s { s with heap:=h',toks:=tk }:=
 ⟨λb o nb e=>hk b o (λq=>nb (lR _ q)) e,λg=>g.updL hk hI,λU U U e=>e,rfl,λb nb e=>by
  cases q:s.heap.get? b with
  | none=>rfl
  | some o=>erw [hk b o nb q] at e;w_cond e⟩
def ic (o:Obj):Prop:=∃ T vs,o.cls= .type T/\o.data= .fields vs/\T≠"code"/\["enumerate","zip","dict_itemiterator","dict_reverseitemiterator","odict_iterator","itertools.zip_longest","itertools.pairwise"].contains T=false/\∀ q t,vs[1]? ≠some (.str q t)
theorem ic.noCode {o} (h:ic o):eF o:=by
 obtain ⟨T,vs,e1,e2,h1,_,h2⟩:=h
 refine ⟨λq=>?_,λq=>?_,λus q t e=>?_⟩
 ·rw [e1] at q;w_cond q
 ·rw [e1] at q;w_cond q;exact h1 rfl
 erw [e2] at e;w_cond e
 exact h2 q t
theorem qA {A E tgt I v o Q} (ho:s.heap.get? I=some o) (hp:ic o) (h:Q () s):wpAny W.M A (letOwnedTupleGo tgt (.ref I) v) Q E s:=by
 obtain ⟨T,vs,hc,hd,_,hT,_⟩:=hp
 unfold letOwnedTupleGo
 cases tgt <;> first
  | exact wpAny_pure h
  | (cases v <;> first
    | exact wpAny_pure h
    | (
      refine wpAny_bind (wpAny_load ho ?_)
      erw [hc,hd]
      simp only [hT,Bool.false_and]
      exact wpAny_pure h))
theorem cV.ofWalks {tgt} {Φ:Heap} {Ia fp P St} {xs:List PV} (hW:∀ A:Around,A.handled=none->Walks W.prog W.w A Ia fp [Ia] xs.length P St) (hfp:∀ b∈fp,b=Ia∨∃ o,Φ.get? b=some o) (hP:∀ i v d,xs[i]? =some d->P i v->Data W Φ v d) (hSt:∀ i h,St i h->∃ o,h.get? Ia=some o/\ic o) (hG:W.G.get? Ia=none) (hΦI:Φ.get? Ia=none):
  ∀ (k i:Nat) (s:Shared),i + k=xs.length->St i s.heap->bF Φ s.heap->cV W n tgt Φ (.ref Ia) (xs.drop i) [Ia] [] s:=by
 intro k
 induction k with
 | zero=>
  intro i s hk hst hΦ
  have hi:i=xs.length:=by w_fin
  subst hi
  rw [List.drop_length]
  intro A s₁ hA gi hΦ₁ hI _ _
  have hst₁:St xs.length s₁.heap:=(hW A hA.hd).frame _ _ _ hst λb hb o e=>by
   rcases hfp b hb with rfl | ⟨o',e'⟩
   ·exact hI _ (.head _) o e
   ·have:=hΦ _ _ e';rw [e] at this;w_cond this;exact hΦ₁ _ _ e'
  obtain ⟨o,ho,hp⟩:=hSt _ _ hst₁
  exact (hW A hA.hd).done s₁ _ _ hst₁ λh' tk hk=>⟨rfl,eX.upd hk λa ha=>by erw [aE ha];exact ⟨hG,o,ho,hp.noCode⟩⟩
 | succ k ih=>
  intro i s hk hst hΦ
  have hi:i<xs.length:=by w_fin
  rw [List.drop_eq_getElem_cons hi]
  intro A s₁ hA gi hΦ₁ hI _ _
  have hst₁:St i s₁.heap:=(hW A hA.hd).frame _ _ _ hst λb hb o e=>by
   rcases hfp b hb with rfl | ⟨o',e'⟩
   ·exact hI _ (.head _) o e
   ·have:=hΦ _ _ e';rw [e] at this;w_cond this;exact hΦ₁ _ _ e'
  obtain ⟨o,ho,hp⟩:=hSt _ _ hst₁
  refine (hW A hA.hd).item i s₁ _ _ hi hst₁ λv h' tk hPv hst' hk=>⟨v,rfl,?_⟩
  obtain ⟨o',ho',hp'⟩:=hSt _ _ hst'
  refine qA (s:={ s₁ with heap:=h',toks:=tk }) ho' hp' ⟨[Ia],[],λμ hμ hx hs=>?_,eX.upd hk λa ha=>by erw [aE ha];exact ⟨hG,o,ho,hp.noCode⟩,λb hb=> .inl hb,λb hb=>by rw [aE hb];exact ⟨o',ho',hp'.noCode.2.2⟩,λb hb=>by rw [aE hb];exact ⟨o',ho',hp'.noCode.2.2⟩,(by intro j hj;w_cond hj),?_⟩
  ·refine Data.sub (hμ.trans (ax λb o n1 n2 e=>?_)) (hP i v xs[i] (List.getElem?_eq_getElem hi) hPv)
   have nI:b∉[Ia]:=λq=>n2 (hs b q)
   exact ⟨λq=>(aw q).elim nI n2,hk b o nI e⟩
  ·refine ih (i+1) _ (by w_fin) hst' λb o e=>hk b o (λq=>?_) (hΦ₁ b o e)
   rw [aE q,hΦI] at e;w_cond e
end
noncomputable def gI:PV->Option (List PV)
 | .list xs=>some xs
 | .tuple xs=>some xs
 | .dS ks _=>some (ks.map .str)
 | .dI ks _=>some (ks.map .int)
 | _=>none
section
variable {n:Nat} {fc:FC} {env:Env} {κ:List Addr} {B:aN} {ω:List Addr} {st:List SV} {s s₁:Shared} {m cm:Str->Option Value}
theorem yv {tgt o fp P St} {xs:List PV} {tk μ} (gi0:GI W s) (g:Gr W s s₁) (hW:∀ A:Around,A.handled=none->Walks W.prog W.w A s₁.heap.objs.size fp [s₁.heap.objs.size] xs.length P St) (hfp:∀ b∈fp,b=s₁.heap.objs.size∨∃ o,(fz W s₁.heap (μ)).get? b=some o) (hP:∀ i v d,xs[i]? =some d->P i v->Data W (fz W s₁.heap (μ)) v d) (hSt:∀ i h,St i h->∃ o,h.get? s₁.heap.objs.size=some o/\ic o) (h0:St 0 (s₁.heap.push o)) (ho:(o.isFreed)=false):
  vi W n tgt s μ xs (.ref s₁.heap.objs.size) { s₁ with heap:=s₁.heap.push o,toks:=tk }:=by
 have gi:=g.gi gi0
 have hnew:s₁.heap.get? s₁.heap.objs.size=none:=aK _
 refine ⟨[s₁.heap.objs.size],[],fz W s₁.heap (μ),g.trans (Gr.push o),ax λb o' n1 n2 e=>⟨λq=>?_,Heap.get?_push_of_some _ e⟩,λb hb=>?_,λb hb=>?_,(by intro j hj;w_cond hj),?_,λA s' Q E hA hΦ hI hQ=>?_⟩
 ·rcases aw q with q | q
  ·rw [aE q,hnew] at e;w_cond e
  ·exact n2 q
 ·erw [aE hb];exact g.dom _ hnew
 ·erw [aE hb]
  obtain ⟨o',e',hp⟩:=hSt 0 _ h0
  exact ⟨o',e',hp.noCode.2.2⟩
 ·have:=cV.ofWalks (n:=n) (tgt:=tgt) (Φ:=fz W s₁.heap (μ)) hW hfp hP hSt (b6 gi hnew) ?_ xs.length 0 { s₁ with heap:=s₁.heap.push o,toks:=tk } (by w_fin) h0 ((av _ _ _).trans λb o' e=>Heap.get?_push_of_some _ e)
  ·rwa [List.drop_zero] at this
  ·cases q:(fz W s₁.heap (μ)).get? s₁.heap.objs.size with
   | none=>rfl
   | some o=>have:=(bx.mp q).1;rw [hnew] at this;w_cond this
 ·refine (hW A hA).self 0 s' Q E ((hW A hA).frame _ _ _ h0 λb hb o' e=>?_) hQ
  rcases hfp b hb with rfl | ⟨o2,e2⟩
  ·exact hI _ (.head _) _ e
  ·have:=Heap.get?_push_of_some o (av _ _ _ _ _ e2)
   rw [e] at this;w_cond this;exact hΦ _ _ e2
theorem oW {tgt o fp P St} {xs:List PV} {tk} (x:bD W fc env κ B ω st s) (g:Gr W s s₁) (hW:∀ A:Around,A.handled=none->Walks W.prog W.w A s₁.heap.objs.size fp [s₁.heap.objs.size] xs.length P St) (hfp:∀ b∈fp,b=s₁.heap.objs.size∨∃ o,(fz W s₁.heap (aq B κ ω)).get? b=some o) (hP:∀ i v d,xs[i]? =some d->P i v->Data W (fz W s₁.heap (aq B κ ω)) v d) (hSt:∀ i h,St i h->∃ o,h.get? s₁.heap.objs.size=some o/\ic o) (h0:St 0 (s₁.heap.push o)) (ho:(o.isFreed)=false):
  vi W n tgt s (aq B κ ω) xs (.ref s₁.heap.objs.size) { s₁ with heap:=s₁.heap.push o,toks:=tk }:=
 yv x.gi g hW hfp hP hSt h0 ho
theorem gy {h F} {a:Addr} {o} (e:F.get? a=some o) (k:bF F h):a≠h.objs.size:=λq=>by
 have:=k _ _ e
 rw [q,aK] at this;w_cond this
theorem ux {tgt A} {K:Type} [DecidableEq K] {knd:PySem.KeyKind W.prog W.w K} {a kvs ep xs} (x:bD W fc env κ B ω st s) (g:Gr W s s₁) (q:a≠sysModules) (e:(fz W s₁.heap (aq B κ ω)).DictAt knd a kvs ep) (hl:xs.length=kvs.length) (hP:∀ (i:Nat) (v:Value) (d:PV),xs[i]? =some d->(∃ k x,kvs[i]? =some (k,x)/\knd.is k v=true)->Data W (fz W s₁.heap (aq B κ ω)) v d):wpAny W.M A (pyIter (.ref a)) (vi W n tgt s (aq B κ ω) xs) (λU U=>False) s₁:=by
 have e':=e.keep (av _ _ _)
 obtain ⟨o1,es1,g1,_⟩:=id e
 refine wpAny_pyIter_dict (knd:=knd) (by simpa using q) e' (oW x g (P:=λi v=>∃ k x,kvs[i]? =some (k,x)/\knd.is k v=true) (St:=λi h=>h.IsKeyIter s₁.heap.objs.size a i kvs.length ep/\h.DictAt knd a kvs ep) (fp:=[s₁.heap.objs.size,a]) (λA hA=>?_) (λb hb=>?_) hP (λi h hs=>?_) ?_ rfl)
 ·erw [hl];exact Walks.dictKeys (knd:=knd) hA s₁.heap.objs.size a (gy g1 (av _ _ _)) kvs ep
 ·exact (aX hb).imp id λq=>⟨_,by rw [aE q];exact g1⟩
 ·obtain ⟨o,q1,q2,q3⟩:=hs.1
  exact ⟨o,q1,_,_,q2,q3,by decide,by decide,by simp⟩
 ·exact ⟨⟨_,Heap.get?_push_size _ rfl,rfl,rfl⟩,e'.keep λb o e=>Heap.get?_push_of_some _ e⟩
theorem cZ {tgt e f} (hf:SE W n fc e f):wh W n fc tgt e (λst=>(de f st).bind gI):=by
 intro A env κ B ω st s xs hA x h
 obtain ⟨d,h1,h2⟩:=ah h
 refine wpAny_mono (hf A env κ B ω st s _ hA x (aT h1)) (λv s₁ z=>?_) λU U q=>q
 obtain ⟨zd,g⟩:=z
 cases d with
 | list ys=>
  w_cond h2
  cases zd using Data.listE with | mk a vs ep e n1 b=>
  have e':=av _ _ _ _ _ e
  refine wpAny_pyIter_list (items:=vs.toArray) ⟨_,e',rfl,_,rfl⟩ (oW x g (P:=λi v=>vs.toArray[i]? =some v) (St:=λi h=>h.IsListIter s₁.heap.objs.size a i/\h.IsList a vs.toArray) (fp:=[s₁.heap.objs.size,a]) (λA hA=>?_) (λb hb=>?_) (λi v d e1 e2=>?_) (λi h hs=>?_) ?_ rfl)
  ·have:=Walks.list (prog:=W.prog) (w:=W.w) hA s₁.heap.objs.size a (gy e (av _ _ _)) vs.toArray
   have e0:vs.toArray.size=ys.length:=by rw [List.size_toArray,b.length]
   rw [e0] at this
   exact this
  ·rcases aX hb with q | q
   ·exact .inl q
   ·exact .inr ⟨_,by rw [aE q];exact e⟩
  ·obtain ⟨v',f1,f2⟩:=b.get e1
   simp at e2;rw [e2] at f1;w_cond f1;exact f2
  ·obtain ⟨o,q1,q2,q3⟩:=hs.1
   exact ⟨o,q1,_,_,q2,q3,by decide,by decide,by simp⟩
  ·exact ⟨⟨_,Heap.get?_push_size _ rfl,rfl,rfl⟩,⟨_,Heap.get?_push_of_some _ e',rfl,_,rfl⟩⟩
 | tuple ys=>
  w_cond h2
  cases zd using Data.tupleE with | mk a vs ep e n1 b=>
  have e':=av _ _ _ _ _ e
  refine wpAny_pyIter_tuple (items:=vs.toArray) ⟨_,e',rfl,_,rfl⟩ (oW x g (P:=λi v=>vs.toArray[i]? =some v) (St:=λi h=>h.IsTupleIter s₁.heap.objs.size a i/\h.IsTuple a vs.toArray) (fp:=[s₁.heap.objs.size,a]) (λA hA=>?_) (λb hb=>?_) (λi v d e1 e2=>?_) (λi h hs=>?_) ?_ rfl)
  ·have:=Walks.tuple (prog:=W.prog) (w:=W.w) hA s₁.heap.objs.size a (gy e (av _ _ _)) vs.toArray
   have e0:vs.toArray.size=ys.length:=by rw [List.size_toArray,b.length]
   rw [e0] at this
   exact this
  ·rcases aX hb with q | q
   ·exact .inl q
   ·exact .inr ⟨_,by rw [aE q];exact e⟩
  ·obtain ⟨v',f1,f2⟩:=b.get e1
   simp at e2;rw [e2] at f1;w_cond f1;exact f2
  ·obtain ⟨o,q1,q2,q3⟩:=hs.1
   exact ⟨o,q1,_,_,q2,q3,by decide,by decide,by simp⟩
  ·exact ⟨⟨_,Heap.get?_push_size _ rfl,rfl,rfl⟩,⟨_,Heap.get?_push_of_some _ e',rfl,_,rfl⟩⟩
 | dS ks ys=>
  w_cond h2
  cases zd using Data.dSE with | mk a kvs ep e n1 m1 b o q=>
  have hlen:kvs.length=ks.length:=by have:=congrArg List.length m1;simpa using this
  refine ux x g q e (by erw [fJ,hlen]) λi v d e1 e2=>?_
  obtain ⟨k,u,f1,f2⟩:=e2
  obtain ⟨t,rfl⟩:=Value.isStrOf_shape f2
  rw [gY] at e1
  obtain ⟨l,f3,rfl⟩:=aA e1
  have f4:(kvs.map (·.1))[i]? =some k:=by rw [gY,f1];rfl
  erw [m1,gY,f3] at f4
  w_cond f4
  exact .str _ _ (o l (List.mem_of_getElem? f3))
 | dI ks ys=>
  w_cond h2
  cases zd using Data.dIE with | mk a kvs ep e n1 m1 b q=>
  have hlen:kvs.length=ks.length:=by have:=congrArg List.length m1;simpa using this
  refine ux x g q e (by erw [fJ,hlen]) λi v d e1 e2=>?_
  obtain ⟨k,u,f1,f2⟩:=e2
  obtain ⟨t,rfl⟩:=Value.isInt_shape f2
  rw [gY] at e1
  obtain ⟨l,f3,rfl⟩:=(aA e1:_)
  have f4:(kvs.map (·.1))[i]? =some k:=by rw [gY,f1];rfl
  erw [m1,f3] at f4
  w_cond f4
  exact .int _ _
 | _=>w_cond h2
noncomputable def en:Nat->List PV->List PV
 | _,[]=>[]
 | i,x::xs=> .tuple [.int i,x]::en (i+1) xs
theorem c8 {T:String} {o:Obj} {vs:Array Value} (hc:o.cls= .type T) (hd:o.data= .fields vs) (hT:T≠"code") (hv:∀ q t,vs[1]? ≠some (.str q t)):eF o:=by
 refine ⟨λq=>?_,λq=>?_,λus q t e=>?_⟩
 ·ctx_has hc q
 ·ctx_has hc q;exact hT rfl
 ·ctx_has hd e;exact hv q t
theorem dZ {h:Heap} {a}:h.get? a=none->∀ {b:Addr} {o:Obj},h.get? b=some o->b≠a:=λe b o e' q=>by erw [q,e] at e';w_cond e'
theorem cV.enum {elts kk p} {Φ:Heap} {e it fp P St L} (hD:∀ A:Around,A.handled=none->Draws W.prog W.w A it fp L P St) (hfp:∀ b∈fp,b=it∨∃ o,Φ.get? b=some o) (hef:e∉fp) (hne:e≠it) (dat:Nat->PV) (hP:∀ i v,i<L->P i v->Data W Φ v (dat i)) (hSt:∀ i h,St i h->∃ o,h.get? it=some o/\eF o) (hG:W.G.get? e=none/\W.G.get? it=none) (hΦI:Φ.get? e=none/\Φ.get? it=none):
  ∀ (k i:Nat) (s:Shared) (xs:List PV),i + k=L->xs=(List.range k).map (λj=>dat (i + j))->(∃ old,IsEnum s.heap e it i old)->St i s.heap->bF Φ s.heap->cV W n (.Tuple elts kk p) Φ (.ref e) (en i xs) [e,it] [] s:=by
 have nc:∀ {h:Heap} {i:Int} {old:Value},IsEnum h e it i old->∃ oa,h.get? e=some oa/\eF oa:=λhe=>⟨_,he,c8 rfl rfl (by decide) (by simp)⟩
 intro k
 induction k with
 | zero=>
  intro i s xs hk hx he hst hΦ
  haveI hi:i=L:=by w_fin
  subst hi
  erw [hx]
  intro A s₁ hA gi hΦ₁ hI _ _
  obtain ⟨old,he⟩:=he
  have he₁:IsEnum s₁.heap e it i old:=hI e (.head _) _ he
  have hst₁:St i s₁.heap:=(hD A.in1 hA.hd).frame _ _ _ hst λb hb o e=>by
   rcases hfp b hb with rfl | ⟨o',e'⟩
   ·exact hI _ (.tail _ (.head _)) o e
   ·have:=hΦ _ _ e';rw [e] at this;w_cond this;exact hΦ₁ _ _ e'
  refine wpAny_pyNext_enum_endD (hD A.in1 hA.hd) he₁ hst₁ λh' hx=>⟨rfl,eX.upd (λb o nb e=>hx b o (λq=>nb (by erw [q];exact .tail _ (.head _))) e) λa ha=>?_⟩
  rcases aX ha with rfl | ha
  ·exact ⟨hG.1,nc he₁⟩
  ·erw [aE ha];exact ⟨hG.2,hSt _ _ hst₁⟩
 | succ k ih=>
  intro i s xs hk hx he hst hΦ
  have hi:i<L:=by w_fin
  have hx':xs=dat i::(List.range k).map (λj=>dat (i+1 + j)):=by
   rw [hx,List.range_succ_eq_map,List.map_cons,jJ]
   haveI:(List.range k).map ((λj=>dat (i + j)) ∘ Nat.succ)=(List.range k).map (λj=>dat (i+1 + j)):=List.map_congr_left λj U=>by
    show dat (i + (j+1))=_
    rw [Nat.add_comm j 1,<-Nat.add_assoc]
   rw [this];rfl
  subst hx'
  intro A s₁ hA gi hΦ₁ hI _ _
  obtain ⟨old,he⟩:=he
  have he₁:IsEnum s₁.heap e it i old:=hI e (.head _) _ he
  have hst₁:St i s₁.heap:=(hD A.in1 hA.hd).frame _ _ _ hst λb hb o e=>by
   (try clear he);rcases hfp b hb with rfl | ⟨o',e'⟩
   ·exact hI _ (.tail _ (.head _)) o e
   ·have:=hΦ _ _ e';rw [e] at this;w_cond this;exact hΦ₁ _ _ e'
  refine wpAny_pyNext_enum_itemD (hD A.in1 hA.hd) he₁ hst₁ hi hne hef λx h' tk hPx hout hst' hT hsz hkk=>⟨_,rfl,?_⟩
  refine wpAny_letOwnedTupleGo_enum (s:={ s₁ with heap:=h',toks:=tk+1 }) hout λh'' he'' hsb=>⟨[e,it],[],λμ hμ hxx hs=>?_,?_,λb hb=> .inl hb,λb hb=>?_,λb hb=>?_,(by intro j hj;w_cond hj),?_⟩
  ·have hnew:s₁.heap.get? s₁.heap.objs.size=none:=aK _
   have nTe:s₁.heap.objs.size≠e:=(dZ hnew he₁).symm
   obtain ⟨oi,hoi,_⟩:=hSt _ _ hst₁
   have nTi:s₁.heap.objs.size≠it:=(dZ hnew hoi).symm
   haveI k2:bF (fz W s₁.heap μ) (fz W h'' ([e,it]++μ)):=ax λb o n1 n2 e0=>by
    have nI:b∉[e,it]:=λq=>n2 (hs b q)
    refine ⟨λq=>(aw q).elim nI n2,?_⟩
    exact (hsb.2 b λq=>nI (by rw [q];exact .head _)).trans (hkk b o (λq=>nI (by rw [q];exact .head _)) (λq=>nI (by rw [q];exact .tail _ (.head _))) e0)
   refine .tuple (vs:=[.int i tk,x]) (ep:=0) (bx.mpr ⟨(hsb.2 _ nTe).trans hT,gi.fresh hnew,λq=>?_⟩) (by show 2<=1048576;w_fin) (.cons (.int _ _) (.cons ((hP i x hi hPx).sub (hμ.trans k2)) .nil))
   rcases aw q with q | q
   ·rcases aX q with q | q
    ·exact nTe q
    ·exact nTi (aE q)
   ·obtain ⟨o,e0⟩:=hxx _ q
    ctx_has hnew e0
  ·refine eX.upd (λb o nb e0=>(hsb.2 b λq=>nb (by rw [q];exact .head _)).trans (hkk b o (λq=>nb (by rw [q];exact .head _)) (λq=>nb (by rw [q];exact .tail _ (.head _))) e0)) λa ha=>?_
   rcases aX ha with rfl | ha
   ·exact ⟨hG.1,nc he₁⟩
   ·erw [aE ha];exact ⟨hG.2,hSt _ _ hst₁⟩
  all_goals first
   | (
     rcases aX hb with rfl | hb
     ·obtain ⟨oe,he1,he2⟩:=nc he''
      exact ⟨oe,he1,he2.2.2⟩
     ·erw [aE hb]
      obtain ⟨oi,hoi,hnc⟩:=hSt _ _ hst'
      exact ⟨oi,(hsb.2 _ hne.symm).trans hoi,hnc.2.2⟩)
   | skip
  have hst'':St (i+1) h'':=(hD A.in1 hA.hd).frame _ _ _ hst' λb hb o e0=>(hsb.2 b λq=>hef (q ▸ hb)).trans e0
  refine ih (i+1) { s₁ with heap:=h'',toks:=tk+1 } _ (by w_fin) rfl ⟨x,by exact_mod_cast he''⟩ hst'' λb o e0=>?_
  have b1:b≠e:=dZ hΦI.1 e0
  have b2:b≠it:=dZ hΦI.2 e0
  exact (hsb.2 b b1).trans (hkk b o b1 b2 (hΦ₁ b o e0))
def iD (W:Wd) (fc:FC) (y:Str):Prop:=fc.names.lookup y=some .globalImplicit/\W.mg y=none/\(y==("__debug__":Str))=false
theorem dD {A E y v pos Q} (hb:iD W fc y) (hv:bootBuiltins y=some v) (hn:y≠"__name__") (x:bD W fc env κ B ω st s) (h:Q v s):wpAny W.M A (eval (.Name y pos) env) Q E s:=by
 obtain ⟨m,cm,x⟩:=x
 obtain ⟨mb,b1,b2⟩:=x.gi.ok.blt
 refine Name_function_global x.eo.kind ((bz x.eo y).trans hb.1) ?_ hb.2.2
 exact loadGlobal_builtin (mg:=W.mg) (by rw [x.eo.globals];exact x.gi.ok.main.keeps x.gi.top) hb.2.1 (by rw [x.eo.builtins];exact b1.keeps x.gi.top) ((b2 y hn).trans hv) h
theorem fh {A E y v pos Q} (hk:fc.names.lookup y=some .globalImplicit) (hd:(y==("__debug__":Str))=false) (hm:W.mg y=some v) (x:bD W fc env κ B ω st s) (h:Q v s):wpAny W.M A (eval (.Name y pos) env) Q E s:=by
 obtain ⟨m,cm,x⟩:=x
 refine Name_function_global x.eo.kind ((bz x.eo y).trans hk) ?_ hd
 exact loadGlobal_global (mg:=W.mg) (by erw [x.eo.globals];exact x.gi.ok.main.keeps x.gi.top) hm h
def gJ (W:Wd) (k:Nat) (t:List Value->Sem Value) (f:List PV->Option PV):Prop:=
 ∀ (A:Around) (s:Shared) (μ:List Addr) (vs:List Value) (ds:List PV) (r:PV),cf k A->GI W s->Ex s μ->ae W (fz W s.heap μ) vs ds->f ds=some r->
  wpAny W.M A (t vs) (PD W μ s r) (λU U=>False) s
def Gf (W:Wd) (k:Nat) (t:List Value->Sem Value) (f:List PV->Option PV):Prop:=
 ∀ (A:Around) (s:Shared) (μ:List Addr) (vs:List Value) (ds:List PV) (r:PV),cf k A->GI W s->Ex s μ->ae W (fz W s.heap μ) vs ds->f ds=some r->
  wpAny W.M A (t vs) (PF W μ s r) (λU U=>False) s
theorem th {y T p pos e es fop fa} (k) (hb:iD W fc y) (hv:bootBuiltins y=some (.type T)) (hn:y≠"__name__") (ho:gJ W k (λvs=>call (.type T) vs) fop) (ha:gb W n fc (e::es) fa) (hk:k<=n) (he:∀ env,starEach (e::es) env=(false,eval e env)::starEach es env:=by w_left) (hplain:∀ env,(backTo pos (starEach es env)).any (·.1)=false:=by w_left):
  SE W n fc (.Call (.Name y p) (e::es) [] pos) (λst=>(fa st).bind λds=>(fop ds).map .d):=by
 intro A env κ B ω st s sv hA x h
 obtain ⟨ds,h1,h⟩:=ah h
 obtain ⟨r,h2,rfl⟩:=(aA h:_)
 refine wpAny_Call_Name_kw (dD hb hv hn x ?_)
 refine PyProof.Rows.callWith_type1 (wpAny_mono (ha A env κ B ω st s ds pos hA x h1) (λvs s₁ z=>?_) λU U q=>q) (he env) (hplain env)
 have x₁:=x.gr z.2
 exact wpAny_mono (ho A s₁ _ vs ds r (hA.le hk) x₁.gi x₁.ex z.1 h2) (λv s₂ w=>⟨w.1,z.2.trans w.2⟩) λU U q=>q
theorem kQ {y T p pos e es fop fa} (k) (hb:iD W fc y) (hv:bootBuiltins y=some (.type T)) (hn:y≠"__name__") (ho:Gf W k (λvs=>call (.type T) vs) fop) (ha:gb W n fc (e::es) fa) (hk:k<=n) (he:∀ env,starEach (e::es) env=(false,eval e env)::starEach es env:=by w_left) (hplain:∀ env,(backTo pos (starEach es env)).any (·.1)=false:=by w_left):
  SF W n fc (.Call (.Name y p) (e::es) [] pos) (λst=>(fa st).bind fop):=by
 intro A env κ B ω st s r hA x h
 obtain ⟨ds,h1,h2⟩:=(ah h:_)
 refine wpAny_Call_Name_kw (dD hb hv hn x ?_)
 refine PyProof.Rows.callWith_type1 (wpAny_mono (ha A env κ B ω st s ds pos hA x h1) (λvs s₁ z=>?_) λU U q=>q) (he env) (hplain env)
 have x₁:=x.gr z.2
 refine wpAny_mono (ho A s₁ _ vs ds r (hA.le hk) x₁.gi x₁.ex z.1 h2) (λv s₂ w=>?_) λU U q=>q
 obtain ⟨⟨a,rfl,hf,c⟩,k⟩:=w
 exact ⟨⟨a,rfl,z.2.dom _ hf,c⟩,z.2.trans k⟩
theorem aP {y id p pos e es fop fa} (k) (hb:iD W fc y) (hv:bootBuiltins y=some (.builtin id)) (hn:y≠"__name__") (ho:gJ W k (λvs=>call (.builtin id) vs) fop) (ha:gb W n fc (e::es) fa) (hk:k<=n) (he:∀ env,starEach (e::es) env=(false,eval e env)::starEach es env:=by w_left) (hplain:∀ env,(backTo pos (starEach es env)).any (·.1)=false:=by w_left):
  SE W n fc (.Call (.Name y p) (e::es) [] pos) (λst=>(fa st).bind λds=>(fop ds).map .d):=by
 intro A env κ B ω st s sv hA x h
 obtain ⟨ds,h1,h⟩:=ah h
 obtain ⟨r,h2,rfl⟩:=(aA h:_)
 refine wpAny_Call_Name_kw (dD hb hv hn x ?_)
 refine PyProof.Rows.callWith_builtin1 (wpAny_mono (ha A env κ B ω st s ds pos hA x h1) (λvs s₁ z=>?_) λU U q=>q) (he env) (hplain env)
 have x₁:=x.gr z.2
 exact wpAny_mono (ho A s₁ _ vs ds r (hA.le hk) x₁.gi x₁.ex z.1 h2) (λv s₂ w=>⟨w.1,z.2.trans w.2⟩) λU U q=>q
theorem kP {y id p pos e es fop fa} (k) (hb:iD W fc y) (hv:bootBuiltins y=some (.builtin id)) (hn:y≠"__name__") (ho:Gf W k (λvs=>call (.builtin id) vs) fop) (ha:gb W n fc (e::es) fa) (hk:k<=n) (he:∀ env,starEach (e::es) env=(false,eval e env)::starEach es env:=by w_left) (hplain:∀ env,(backTo pos (starEach es env)).any (·.1)=false:=by w_left):
  SF W n fc (.Call (.Name y p) (e::es) [] pos) (λst=>(fa st).bind fop):=by
 intro A env κ B ω st s r hA x h
 obtain ⟨ds,h1,h2⟩:=(ah h:_)
 refine wpAny_Call_Name_kw (dD hb hv hn x ?_)
 refine PyProof.Rows.callWith_builtin1 (wpAny_mono (ha A env κ B ω st s ds pos hA x h1) (λvs s₁ z=>?_) λU U q=>q) (he env) (hplain env)
 have x₁:=x.gr z.2
 refine wpAny_mono (ho A s₁ _ vs ds r (hA.le hk) x₁.gi x₁.ex z.1 h2) (λv s₂ w=>?_) λU U q=>q
 obtain ⟨⟨a,rfl,hf,c⟩,k⟩:=w
 exact ⟨⟨a,rfl,z.2.dom _ hf,c⟩,z.2.trans k⟩
noncomputable def y9:List PV->Option PV
 | [d]=>some d
 | _=>none
theorem ez {ds d} (h:y9 ds=some d):ds=[d]:=by
 cases ds with
 | nil=>exact nS h
 | cons a l=>cases l with
  | nil=>w_cond h;rfl
  | cons _ _=>exact nS h
noncomputable def DB:List PV->Option (PV×PV)
 | [a,b]=>some (a,b)
 | _=>none
theorem gE {ds p} (h:DB ds=some p):ds=[p.1,p.2]:=by
 cases ds with
 | nil=>exact nS h
 | cons a l=>cases l with
  | nil=>exact nS h
  | cons b r=>cases r with
   | nil=>exact congrArg (λp:PV×PV=>[p.1,p.2]) (sI h)
   | cons _ _=>exact nS h
noncomputable def BW (ds:List PV):Option PV:=(y9 ds).bind λd=>match d with
 | .list xs=>some (.int xs.length)
 | .str l=>some (.int l.length)
 | _=>none
theorem ae.one {F vs d} (x:ae W F vs [d]):∃ v,vs=[v]/\Data W F v d:=by
 cases x with | cons a b=>w_cond b;exact ⟨_,rfl,a⟩
theorem ae.two {F vs d e} (x:ae W F vs [d,e]):∃ v u,vs=[v,u]/\Data W F v d/\Data W F u e:=by
 cases x with | cons a b=>cases b with | cons b c=>w_cond c;exact ⟨_,_,rfl,a,b⟩
theorem ae.three {F vs d e f} (x:ae W F vs [d,e,f]):∃ v u w,vs=[v,u,w]/\Data W F v d/\Data W F u e/\Data W F w f:=by
 cases x with | cons a b=>cases b with | cons b c=>cases c with | cons c d=>w_cond d;exact ⟨_,_,_,rfl,a,b,c⟩
theorem cq:gJ W 0 (λvs=>call (.builtin "len") vs) BW:=by
 intro A s μ vs ds r hA g ex hv h
 obtain ⟨d,h1,h⟩:=ah h
 obtain rfl:=ez h1
 obtain ⟨v,rfl,dv⟩:=hv.one
 clear hv h1
 cases d with
 | list xs=>
  w_cond h
  obtain ⟨a,us,ep,rfl,e,n1,b⟩:=RV.listI (.inl dv) (av _ _ _)
  erw [<-b.length]
  exact call_len_list (items:=us.toArray) ⟨_,e,rfl,_,rfl⟩ (by erw [List.size_toArray];unfold be at n1;w_fin) ⟨by erw [List.size_toArray];exact .int _ _,Gr.tok _⟩
 | str l=>
  w_cond h
  obtain ⟨⟨t,rfl⟩,n1⟩:=RV.strI (h:=s.heap) (.inl dv)
  have hl:(bM l).length=l.length:=by simp [Str.length]
  erw [<-hl]
  exact P.len_str (by erw [hl];unfold be at n1;w_fin) ⟨.int _ _,Gr.tok _⟩
 | _=>exact nS h
noncomputable def zn:PV->Option PV
 | .list xs=>some (.list xs)
 | d=>(Cu d).map λp=> .list (p.1.map .int)
theorem sJ {d r} (h:zn d=some r):(∃ xs,d= .list xs/\ .list xs=r)∨∃ p,Cu d=some p/\ .list (p.1.map .int)=r:=by
 cases d with
 | list xs=>exact .inl ⟨xs,rfl,sI h⟩
 | _=>exact .inr (aA h)
noncomputable def H4 (ds:List PV):Option PV:=(y9 ds).bind zn
noncomputable def KU:PV->Option Bool
 | .bool b=>some b
 | _=>none
theorem AR {d b} (h:KU d=some b):d= .bool b:=by
 cases d <;> first | exact congrArg PV.bool (Option.some.inj h) | exact nS h
noncomputable def H3 (ds:List PV):Option PV:=(y9 ds).bind λd=>(KU d).map λb=> .int (if b then 1 else 0)
noncomputable def JW:List PV->Option PV
 | [.int _]=>some (.bool false)
 | _=>none
noncomputable def Fx:List PV->Option Int
 | []=>some 0
 | .int i::xs=>(Fx xs).map (i + ·)
 | _::_=>none
noncomputable def JY (ds:List PV):Option PV:=(y9 ds).bind λd=>(pA d).bind λxs=>(Fx xs).map .int
theorem ue {μ h' a} (k:bF s.heap h') (hn:s.heap.get? a=none):bF (fz W s.heap μ) (fz W h' (a::μ)):=ax λb o n1 n2 e=>⟨λq=>by
 rcases aX q with q | q
 ·erw [q,hn] at e;w_cond e
 ·exact n2 q,k b o e⟩
theorem ae.items {F P acc xs} (h:ItemsOf P acc xs.length) (hP:∀ i v d,xs[i]? =some d->P i v->Data W F v d):ae W F acc.toList xs:=by
 refine ae.of_get (by simpa using h.1) λi v d e1 e2=>hP i v d e2 (h.2 i v (by simpa using e1))
theorem lc:Gf W 2 (λvs=>call (.type "list") vs) H4:=by
 intro A s μ vs ds r hA g ex hv h
 obtain ⟨d,h1,h⟩:=ah h
 obtain rfl:=ez h1
 obtain ⟨v,rfl,dv⟩:=hv.one
 clear hv h1
 have hn:s.heap.get? s.heap.objs.size=none:=aK _
 rcases sJ h with ⟨xs,rfl,rfl⟩ | ⟨⟨ks,xs⟩,hp,rfl⟩
 ·cases dv using Data.listE with | mk a us ep e n1 b=>
  refine call_list_seq a (.inl rfl) (av _ _ _ _ _ e) rfl rfl (λh' c' k e'=>⟨⟨_,rfl,hn,.list (vs:=us) e' n1 (b.sub (ue k hn))⟩,Gr.of_sub (tk:=s.toks) k⟩) (by rw [List.size_toArray];exact bj n1)
 ·have dv:=hU hp dv
  cases dv using Data.dIE with | mk a kvs ep e n1 m1 b q=>
  have hlen:=congrArg List.length m1
  rw [fJ] at hlen
  refine kdl_call (kdl_dict (knd:=intKind W.prog W.w) (by simpa using q)) hA.hd (e.keep (av _ _ _)) (bj n1) λh' tk acc' c' k e' it=>⟨⟨_,rfl,hn,.list (vs:=acc'.toList) (by simpa using e') ?_ (ae.items (xs:=ks.map .int) (by simpa [hlen] using it) λi v d e1 e2=>?_)⟩,Gr.of_sub k⟩
  ·have:=it.1;simpa [this] using n1
  ·have e2':∃ k,(∃ x,kvs[i]? =some (k,x))/\Value.isInt k v=true:=e2
   obtain ⟨k,⟨u,f1⟩,f2⟩:=e2'
   obtain ⟨t,rfl⟩:=Value.isInt_shape f2
   rw [gY] at e1
   obtain ⟨l,f3,rfl⟩:=(aA e1:_)
   have f4:(kvs.map (·.1))[i]? =some k:=by rw [gY,f1];rfl
   erw [m1,f3] at f4
   w_cond f4
   exact .int _ _
theorem ET:gJ W 0 (λvs=>call (.type "int") vs) H3:=by
 intro A s μ vs ds r hA g ex hv h
 obtain ⟨d,h1,h⟩:=ah h
 obtain ⟨b,h2,rfl⟩:=aA h
 obtain rfl:=ez h1
 obtain rfl:=AR h2
 obtain ⟨v,rfl,dv⟩:=hv.one
 obtain rfl:=RV.boolI (h:=s.heap) (.inl dv)
 exact call_int_bool ⟨.int _ _,Gr.tok _⟩
theorem J1 (k) (f) (n):preSum (λi=>Nat.casesOn i k f) (n+1)=k + preSum f n:=by
 induction n with
 | zero=>exact Int.add_comm 0 k
 | succ n ih=>exact (congrArg (· + f n) ih).trans (Int.add_assoc ..)
theorem z9 {F} (xs):∀ {vs:List Value} {r:Int},ae W F vs xs->Fx xs=some r->∃ val:Nat->Int,(∀ (i:Nat) (v:Value),vs[i]? =some v->∃ t,v= .int (val i) t)/\preSum val xs.length=r:=by
 induction xs with
 | nil=>
  intro vs r hd h
  w_cond hd
  exact ⟨λU=>0,λi v e=>by w_cond e,sI h⟩
 | cons y ys ih=>
  intro vs r hd h
  obtain ⟨v0,us,rfl,d1,d2⟩:=hd.cons_inv
  cases y <;> try w_cond h
  obtain ⟨r',h1,rfl⟩:=(aA h:_)
  obtain ⟨val,a,b⟩:=ih d2 h1
  refine ⟨λj=>Nat.casesOn j i val,λj v e=>?_,(J1 i val _).trans (congrArg _ b)⟩
  cases j with
  | zero=>w_cond d1;w_cond e;exact ⟨_,rfl⟩
  | succ j=>exact a j v e
theorem sF:gJ W 2 (λvs=>call (.builtin "sum") vs) JY:=by
 intro A s μ vs ds r hA g ex hv h
 obtain ⟨d,e1,h⟩:=ah h
 obtain ⟨xs,e2,h⟩:=ah h
 obtain ⟨r,h1,rfl⟩:=(aA h:_)
 obtain rfl:=ez e1
 obtain rfl:=cO e2
 obtain ⟨v,rfl,d⟩:=hv.one
 cases d using Data.listE with | mk a us ep e n1 b=>
 obtain ⟨val,v1,v2⟩:=z9 xs b h1
 have e':=av _ _ _ _ _ e
 refine call_sum_walkG (wpAny_pyIter_list (items:=us.toArray) ⟨_,e',rfl,_,rfl⟩ ⟨_,[s.heap.objs.size,a],[s.heap.objs.size],us.toArray.size,_,_,val,rfl,Walks.list (A:=A.in1) (prog:=W.prog) (w:=W.w) hA.hd _ a (gy e (av _ _ _)) us.toArray,⟨⟨_,Heap.get?_push_size _ rfl,rfl,rfl⟩,⟨_,Heap.get?_push_of_some _ e',rfl,_,rfl⟩⟩,λb hb=>?_,(λi v e=>v1 i v (by simpa using e)),λh' tk t' k=>?_⟩)
 ·rw [Heap.size_push]
  rcases aX hb with q | q
  ·rw [q];exact Nat.lt_succ_self _
  ·rw [aE q];exact Nat.lt_succ_of_lt (Heap.lt_size e')
 ·have hl:us.toArray.size=xs.length:=by rw [List.size_toArray,b.length]
  erw [hl,v2]
  refine ⟨.int _ _,Gr.of_sub λb o e=>k b o (λq=>?_) (Heap.get?_push_of_some _ e)⟩
  rw [aE q,aK] at e;w_cond e
noncomputable def jF:List PV->Option (List (List Nat))
 | []=>some []
 | .str l::xs=>(jF xs).map (l::·)
 | _::_=>none
noncomputable def zm (ds:List PV):Option PV:=(DB ds).bind λp=>(vr p.1).bind λe=>(pA p.2).bind λxs=>if e=[] then (jF xs).bind λls=>ei ls.flatten else none
theorem wb {F}:∀ (vs:List Value) (xs:List PV) (ls:List (List Nat)),ae W F vs xs->jF xs=some ls->∃ l:List (Str×Tok),vs=strValues l/\l.map (·.1)=ls.map bM:=by
 intro vs xs
 induction xs generalizing vs with
 | nil=>intro ls hd h;w_cond h;w_cond hd;exact ⟨[],rfl,rfl⟩
 | cons x xs ih=>
  intro ls hd h
  obtain ⟨v,us,rfl,d1,d2⟩:=hd.cons_inv
  cases x <;> try w_cond h
  obtain ⟨ls',h1,rfl⟩:=(aA h:_)
  obtain ⟨l,rfl,e⟩:=ih us ls' d2 h1
  cases d1 using Data.strE with | mk t _=>exact ⟨(bM _,t)::l,rfl,by simp [e]⟩
theorem yF (ls:List (List Nat)):Str.join (bM []) (ls.map bM)=bM ls.flatten:=by
 induction ls with
 | nil=>rfl
 | cons x ls ih=>
  cases ls with
  | nil=>simp [Str.join]
  | cons y r=>
   show bM x++bM []++Str.join (bM []) ((y::r).map bM)=_
   rw [ih,i0,i0]
   simp
theorem xJ:∀ (ls:List (List Nat)) (a:Nat),(ls.map bM).foldl (λx y=>x + y.length + (bM []).length) a=a + ls.flatten.length:=by
 intro zv
 induction zv with
 | nil=>
  intro a
  simp
 | cons x r ih=>
  intro a
  rw [List.map_cons,List.foldl_cons,ih]
  simp [Str.length];w_fin
set_option tactic.hygienic true in
theorem BU:gJ W 0 (λvs=>call (.builtin "str.join") vs) zm:=by
 intro A s μ vs ds r hA g ex hv h
 obtain ⟨⟨p1,p2⟩,e1,h⟩:=ah h
 obtain ⟨e,e4,h⟩:=ah h
 obtain ⟨xs,e2,h⟩:=ah h
 obtain ⟨e3,h⟩:=bI h
 obtain ⟨ls,h1,h2⟩:=(ah h:_)
 obtain rfl:=gE e1
 obtain rfl:=cO e2
 obtain rfl:=dW e4
 subst e3
 obtain ⟨v,u,rfl,d1,d2⟩:=hv.two
 cases d1 using Data.strE with | mk t _=>
 cases d2 using Data.listE with | mk a us ep e n1 b=>
 obtain ⟨l,rfl,hl⟩:=wb us xs ls b h1
 unfold ei at h2
 split at h2
 ·rename_i hlim
  w_cond h2
  refine call_meets F.slot_str_join (show s.TypeIs (.str _ _) "str" from rfl) F.entry_str_join (F.args_str_join_2 _ _) (meets_str_join_list (bM []) t a l ?_) ⟨⟨_,av _ _ _ _ _ e,rfl,_,rfl⟩,?_⟩
  ·erw [hl,<-Array.foldl_toList,xJ,Nat.zero_add]
   have:=bj hlim
   unfold Builtin.Str.tooLong
   exact decide_eq_false (Nat.not_lt.mpr this)
  ·have fin:∀ (p:List (Str×Tok)),p.map (·.1)=ls.map bM->Builtin.Str.glued (bM []) (p.map (·.1))=bM ls.flatten:=λp hp=>by erw [StrLaws.glued_eq_join,hp,yF]
   unfold joinMade
   split
   ·rename_i p
    have:=fin [p] hl
    rw [StrLaws.glued_eq_join] at this
    have e1:p.1=bM ls.flatten:=this
    refine ⟨?_,Gr.refl _ _⟩
    rw [e1]
    exact .str _ _ hlim
   ·erw [fin l hl]
    exact ⟨by simpa [Str.length] using bj hlim,.str _ _ hlim,Gr.tok _⟩
 ·w_cond h2
def DM (W:Wd) (k n:Nat) (tgt:Expr) (t:List Value->Sem Value) (f:List PV->Option (List PV)):Prop:=
 ∀ (A:Around) (s:Shared) (μ:List Addr) (vs:List Value) (ds:List PV) (xs:List PV),cf k A->GI W s->Ex s μ->ae W (fz W s.heap μ) vs ds->f ds=some xs->
  wpAny W.M A (t vs) (jM W n tgt A s μ xs) (λU U=>False) s
noncomputable def j3 (a b c:Int):Nat:=if c=1 then (b - a).toNat else (a - b).toNat
noncomputable def j4 (a b c:Int):List PV:=(List.range (j3 a b c)).map λi=> .int (a + (i:Nat) * c)
noncomputable def Fa:List PV->Option (Int×Int×Int)
 | []=>none
 | x::r=>(fG x).bind λa=>match r with
  | []=>some (0,a,1)
  | y::r=>(fG y).bind λb=>match r with
   | []=>some (a,b,1)
   | z::r=>(fG z).bind λc=>if r=[] then some (a,b,c) else none
noncomputable def j0 (ds:List PV):Option (List PV):=(Fa ds).bind λ(a,b,c)=>if a.natAbs<1048576/\b.natAbs<1048576/\(c=1∨c= -1) then some (j4 a b c) else none
theorem aO {tgt y T p pos e es fop fa} (k) (hb:iD W fc y) (hv:bootBuiltins y=some (.type T)) (hn:y≠"__name__") (ho:DM W k n tgt (λvs=>call (.type T) vs) fop) (ha:gb W n fc (e::es) fa) (hk:k<=n) (he:∀ env,starEach (e::es) env=(false,eval e env)::starEach es env:=by w_left) (hplain:∀ env,(backTo pos (starEach es env)).any (·.1)=false:=by w_left):
  wh W n fc tgt (.Call (.Name y p) (e::es) [] pos) (λst=>(fa st).bind fop):=by
 intro A env κ B ω st s xs hA x h
 obtain ⟨ds,h1,h2⟩:=(ah h:_)
 refine wpAny_Call_Name_kw (dD hb hv hn x ?_)
 refine PyProof.Rows.callWith_type1 (wpAny_mono (ha A env κ B ω st s ds pos hA x h1) (λvs s₁ z=>?_) λU U q=>q) (he env) (hplain env)
 have x₁:=x.gr z.2
 refine wpAny_mono (ho A s₁ _ vs ds xs (hA.le hk) x₁.gi x₁.ex z.1 h2) (λv s₂ w=>wpAny_mono w (λit s₃ u=>?_) λU U q=>q) λU U q=>q
 obtain ⟨I,J,Φ,a,b,c,d,e,f⟩:=u
 exact ⟨I,J,Φ,z.2.trans a,b,λb hb=>z.2.dom b (c b hb),d,λj hj=>gV z.2.gens (e j hj),f⟩
theorem sS {a b c} (hc:c=1∨c= -1):Builtin.Range.rangeSize a b c=(j3 a b c:Nat):=by
 rcases hc with rfl | rfl
 ·exact (rangeSize_nat a b).trans (congrArg Nat.cast (if_pos rfl).symm)
 ·exact (rangeSize_downNat a b).trans (congrArg Nat.cast (if_neg (by decide)).symm)
theorem wl {a:Int} (h:a.natAbs<1048576): -2 ^ 62<=a/\a<2 ^ 62:=by w_fin
theorem mq {tgt A μ a b c t u v r} {g:Gr W s s₁} (gi:GI W s) (hA:A.handled=none) (ha:a.natAbs<1048576) (hb:b.natAbs<1048576) (hc:c=1∨c= -1) (hr:IsRange s₁.heap r a b c t u v):
  wpAny W.M A (pyIter (.ref r)) (vi W n tgt s μ (j4 a b c)) (λU U=>False) s₁:=by
 have hsz:=sS (a:=a) (b:=b) hc
 refine wpAny_pyIter_range hr ?_ ?_
 ·rcases hc with rfl | rfl
  ·exact small_one (wl ha).1 (wl ha).2 (wl hb).1 (wl hb).2
  ·exact small_down (wl ha).1 (wl ha).2 (wl hb).1 (wl hb).2
 ·erw [hsz]
  refine yv (μ:=μ) gi g (P:=λi v=>∃ t,v= .int (a + i * c) t) (St:=λi h=>IsRangeIter h s₁.heap.objs.size (a + (i:Nat) * c) (((j3 a b c:Nat):Int) - (i:Nat)) c) (fp:=[s₁.heap.objs.size]) (λA hA=>?_) (λb hb=> .inl (aE hb)) (λi v d e1 e2=>?_) (λi h hs=>⟨_,hs,_,_,rfl,rfl,by decide,by decide,λq t=>by simp [rawInt]⟩) ?_ rfl
  ·have:=Walks.range (prog:=W.prog) (w:=W.w) hA s₁.heap.objs.size a c (j3 a b c)
   unfold j4;erw [fJ,List.length_range];exact this
  ·unfold j4 at e1
   rw [gY] at e1
   obtain ⟨j,f3,rfl⟩:=(aA e1:_)
   obtain ⟨t,rfl⟩:=e2
   obtain ⟨f4,rfl⟩:=List.getElem?_eq_some_iff.mp f3
   rw [List.getElem_range]
   exact .int _ _
  ·simp only [Int.natCast_zero,Int.zero_mul,Int.add_zero,Int.sub_zero]
   exact Heap.get?_push_size _ rfl
set_option tactic.hygienic true in
theorem bn {tgt}:DM W 0 n tgt (λvs=>call (.type "range") vs) j0:=by
 intro A s μ vs ds xs hA g ex hv h
 obtain ⟨⟨a,b,c⟩,h1,h2⟩:=(ah h:_)
 simp only at h2
 split at h2 <;> first | cases h2 | skip
 rename_i hab
 obtain ⟨ha,hb,hc⟩:=hab
 cases ds with
 | nil=>w_cond h1
 | cons x r=>
 obtain ⟨i,e1,h1⟩:=ah h1
 obtain rfl:=aJ e1
 cases r with
 | nil=>
  w_cond h1
  obtain ⟨v,rfl,d⟩:=hv.one
  w_cond d
  exact call_range_1 (mq (g:=Gr.push _) g hA.hd ha hb hc (IsRange.new _ _ _ _ _ _ _))
 | cons y r=>
 obtain ⟨j,e1,h1⟩:=ah h1
 obtain rfl:=aJ e1
 cases r with
 | nil=>
  w_cond h1
  obtain ⟨v,u,rfl,d1,d2⟩:=hv.two
  w_cond d1;w_cond d2
  exact call_range_2 (mq (g:=Gr.push _) g hA.hd ha hb hc (IsRange.new _ _ _ _ _ _ _))
 | cons z r=>
  obtain ⟨k,e1,h1⟩:=ah h1
  obtain rfl:=aJ e1
  obtain ⟨rfl,h1⟩:=bI h1
  w_cond h1
  obtain ⟨v,u,w,rfl,d1,d2,d3⟩:=hv.three
  w_cond d1;w_cond d2;w_cond d3
  refine call_range_3 (by rcases hc with rfl | rfl <;> decide) (mq (g:=Gr.push _) g hA.hd ha hb hc (IsRange.new _ _ _ _ _ _ _)) (.inl ?_)
  rcases hc with rfl | rfl
  ·exact PyProof.noPylong_small (by w_fin)
  ·exact PyProof.noPylong_small (by decide)
noncomputable def EW:PV->Option (List PV)
 | .list xs=>some (en 0 xs)
 | .str l=>some (en 0 (l.map λc=> .str [c]))
 | _=>none
noncomputable def uK (ds:List PV):Option (List PV):=(y9 ds).bind EW
theorem gA {elts kk p}:DM W 0 n (.Tuple elts kk p) (λvs=>call (.type "enumerate") vs) uK:=by
 intro A s μ vs ds xs hA g ex hv h
 have hn0:s.heap.get? s.heap.objs.size=none:=aK _
 have hn1:s.heap.get? (s.heap.objs.size+1)=none:=Heap.get?_none_of_le (Nat.le_succ _)
 have done:∀ (h':Heap) (fp:List Addr) (P:Nat->Value->Prop) (St:Nat->Heap->Prop) (ys:List PV),IsEnum h' (s.heap.objs.size+1) s.heap.objs.size 0 .none->bF s.heap h'->St 0 h'->
   (∀ A:Around,A.handled=none->Draws W.prog W.w A s.heap.objs.size fp ys.length P St)->(∀ b∈fp,b=s.heap.objs.size∨∃ o,(fz W s.heap μ).get? b=some o)->
   (∀ i v d,ys[i]? =some d->P i v->Data W (fz W s.heap μ) v d)->(∀ i h,St i h->∃ o,h.get? s.heap.objs.size=some o/\eF o)->
   wpAny W.M A (pyIter (.ref (s.heap.objs.size+1))) (vi W n (.Tuple elts kk p) s μ (en 0 ys)) (λU U=>False) { s with heap:=h' }:=by
  intro h' fp P St ys he k hst hD hfp hP hSt
  refine wpAny_pyIter_enum he ?_
  have nΦ:∀ b,s.heap.get? b=none->(fz W s.heap μ).get? b=none:=λb e=>by
   cases q:(fz W s.heap μ).get? b with
   | none=>rfl
   | some o=>rw [(bx.mp q).1] at e;w_cond e
  refine ⟨[s.heap.objs.size+1,s.heap.objs.size],[],fz W s.heap μ,Gr.of_sub k,ax λb o n1 n2 e=>⟨λq=>?_,k b o e⟩,λb hb=>?_,λb hb=>?_,(by intro j hj;w_cond hj),?_,λA s' Q E hA hΦ hI hQ=>wpAny_pyIter_enum (hI _ (.head _) _ he) hQ⟩
  ·rcases aw q with q | q
   ·rcases aX q with q | q
    ·rw [q,hn1] at e;w_cond e
    ·rw [aE q,hn0] at e;w_cond e
   ·exact n2 q
  ·rcases aX hb with q | q
   ·rw [q];exact hn1
   ·rw [aE q];exact hn0
  ·rcases aX hb with q | q
   ·rw [q];exact ⟨_,he,(c8 (T:="enumerate") rfl rfl (by decide) (by simp)).2.2⟩
   ·rw [aE q];obtain ⟨o,e,hnc⟩:=hSt _ _ hst;exact ⟨o,e,hnc.2.2⟩
  ·refine cV.enum (L:=ys.length) (fp:=fp) (P:=P) (St:=St) hD hfp (λq=>?_) (Nat.succ_ne_self _) (λi=>(ys[i]?).getD .none) (λi v hi hp=>?_) hSt ⟨b6 g hn1,b6 g hn0⟩ ⟨nΦ _ hn1,nΦ _ hn0⟩ ys.length 0 _ ys (by w_fin) ?_ ⟨_,he⟩ hst ((av _ _ _).trans k)
   ·rcases hfp _ q with q | ⟨o,e⟩
    ·exact absurd q (Nat.succ_ne_self _)
    ·rw [nΦ _ hn1] at e;w_cond e
   ·rw [List.getElem?_eq_getElem hi]
    exact hP i v _ (List.getElem?_eq_getElem hi) hp
   ·refine List.ext_getElem (by simp) λi h1 h2=>?_
    simp [List.getElem?_eq_getElem h1]
 obtain ⟨d,e1,h⟩:=ah h
 obtain rfl:=ez e1
 cases d with
 | list ys=>
  w_cond h
  obtain ⟨v,rfl,d⟩:=hv.one
  cases d using Data.listE with | mk a us ep e n1 b=>
  have e':=av _ _ _ _ _ e
  refine call_enumerate_list (items:=us.toArray) ⟨_,e',rfl,_,rfl⟩ λh' he hi hs k=>done h' [s.heap.objs.size,a] (λi v=>us.toArray[i]? =some v) (λi h=>h.IsListIter s.heap.objs.size a i/\h.IsList a us.toArray) ys he k ⟨hi,⟨_,k _ _ e',rfl,_,rfl⟩⟩ (λA hA=>?_) (λb hb=>?_) (λi v d e1 e2=>?_) (λi h hs=>?_)
  ·have:=Draws.list (prog:=W.prog) (w:=W.w) hA s.heap.objs.size a (gy e (av _ _ _)) us.toArray
   have e0:us.toArray.size=ys.length:=by erw [List.size_toArray,b.length]
   erw [e0] at this
   exact this
  ·rcases aX hb with q | q
   ·exact .inl q
   ·exact .inr ⟨_,by rw [aE q];exact e⟩
  ·obtain ⟨v',f1,f2⟩:=b.get e1
   simp at e2;rw [e2] at f1;w_cond f1;exact f2
  ·obtain ⟨o,q1,q2,q3⟩:=hs.1
   exact ⟨o,q1,c8 q2 q3 (by decide) (by simp)⟩
 | str l=>
  w_cond h
  obtain ⟨v,rfl,d⟩:=hv.one
  cases d using Data.strE with | mk t n1=>
  refine call_enumerate_str λh' he hi hs k=>done h' [s.heap.objs.size] (λi v=>∃ c u,(bM l).cps[i]? =some c/\v= .str ⟨#[c]⟩ u) (λi h=>h.IsStrIter s.heap.objs.size (strIterType (bM l)) (bM l) t i) (l.map λc=> .str [c]) he k hi (λA hA=>?_) (λb hb=> .inl (aE hb)) (λi v d e1 e2=>?_) (λi h hs=>?_)
  ·erw [fJ]
   unfold strIterType
   split
   ·have:=Draws.strAscii (prog:=W.prog) (w:=W.w) hA s.heap.objs.size (bM l) t
    simpa using this
   ·have:=Draws.strWide (prog:=W.prog) (w:=W.w) hA s.heap.objs.size (bM l) t
    simpa using this
  ·rw [gY] at e1
   obtain ⟨c,f3,rfl⟩:=(aA e1:_)
   obtain ⟨c',u,f1,rfl⟩:=e2
   simp at f1;rw [f1] at f3;w_cond f3
   exact .str [_] _ (by unfold be;simp)
  ·obtain ⟨o,q1,q2,q3⟩:=hs
   refine ⟨o,q1,c8 q2 q3 ?_ (by simp)⟩
   unfold strIterType;split <;> decide
 | _=>w_cond h
noncomputable def H8 (d:PV):Option (List PV):=(Cu d).map λp=>(p.1.zip p.2).map λq=> .tuple [.int q.1,q.2]
noncomputable def Iy (d:PV):Option (List PV):=(Cu d).map (·.2)
noncomputable def JV (d k v:PV):Option PV:=(Cu d).bind λp=>(fG k).map λi=>(eN p.1 p.2 i).getD v
theorem cV.items {K:Type} [DecidableEq K] (knd:PySem.KeyKind W.prog W.w K) {elts kk p Φ it d kvs ep} (hne:d≠it) (hm:Φ.DictAt knd d kvs ep) (dat:Nat->PV) (hK:∀ (i:Nat) (k:K) (x:Value),kvs[i]? =some (k,x)->∃ a b,dat i= .tuple [a,b]/\(∀ v:Value,knd.is k v=true->Data W Φ v a)/\Data W Φ x b) (hG:W.G.get? it=none) (hΦI:Φ.get? it=none):
  ∀ (k i:Nat) (s:Shared) (xs:List PV),i + k=kvs.length->xs=(List.range k).map (λj=>dat (i + j))->(∃ ok ov,IsItemIter s.heap it d i kvs.length ep ok ov)->bF Φ s.heap->cV W n (.Tuple elts kk p) Φ (.ref it) xs [it] [] s:=by
 have nc:∀ {h:Heap} {i nn ep:Nat} {ok ov:Value},IsItemIter h it d i nn ep ok ov->∃ oa,h.get? it=some oa/\eF oa:=λhe=>⟨_,he,c8 rfl rfl (by decide) (by simp)⟩
 intro k
 induction k with
 | zero=>
  intro i s xs hk hx he hΦ
  have hi:i=kvs.length:=by w_fin
  erw [hx]
  intro A s₁ hA gi hΦ₁ hI _ _
  obtain ⟨ok,ov,he⟩:=he
  have he₁:IsItemIter s₁.heap it d i kvs.length ep ok ov:=hI it (.head _) _ he
  exact wpAny_pyNext_items_end hA.hd he₁ (hm.keep hΦ₁) (by erw [hi];simp) λh' hx=>⟨rfl,eX.upd (λb o nb e=>hx b o (λq=>nb (by rw [q];exact .head _)) e) λa ha=>by erw [aE ha];exact ⟨hG,nc he₁⟩⟩
 | succ k ih=>
  intro i s xs hk hx he hΦ
  have hi:i<kvs.length:=by w_fin
  have hkv:kvs[i]? =some kvs[i]:=List.getElem?_eq_getElem hi
  have hx':xs=dat i::(List.range k).map (λj=>dat (i+1 + j)):=by
   erw [hx,List.range_succ_eq_map,List.map_cons,jJ]
   have:(List.range k).map ((λj=>dat (i + j)) ∘ Nat.succ)=(List.range k).map (λj=>dat (i+1 + j)):=List.map_congr_left λj U=>by
    show dat (i + (j+1))=_
    rw [Nat.add_comm j 1,<-Nat.add_assoc]
   rw [this];rfl
  subst hx'
  intro A s₁ hA gi hΦ₁ hI _ _
  obtain ⟨ok,ov,he⟩:=he
  have he₁:IsItemIter s₁.heap it d i kvs.length ep ok ov:=hI it (.head _) _ he
  have hkv':=hkv
  refine wpAny_pyNext_items_item (k:=kvs[i].1) (v:=kvs[i].2) he₁ (hm.keep hΦ₁) hkv λkey h' hkey hout hT hsz hkk=>⟨_,rfl,?_⟩
  refine wpAny_letOwnedTupleGo_items (s:={ s₁ with heap:=h' }) hout λh'' he'' hsb=>⟨[it],[],λμ hμ hxx hs=>?_,?_,λb hb=> .inl hb,λb hb=>by rw [aE hb];obtain ⟨oe,he1,he2⟩:=nc he'';exact ⟨oe,he1,he2.2.2⟩,λb hb=>by rw [aE hb];obtain ⟨oe,he1,he2⟩:=nc he'';exact ⟨oe,he1,he2.2.2⟩,(by intro j hj;w_cond hj),?_⟩
  ·have hnew:s₁.heap.get? s₁.heap.objs.size=none:=aK _
   have nT:s₁.heap.objs.size≠it:=(dZ hnew he₁).symm
   have k2:bF (fz W s₁.heap μ) (fz W h'' ([it]++μ)):=ax λb o n1 n2 e0=>by
    have nI:b∉[it]:=λq=>n2 (hs b q)
    exact ⟨λq=>(aw q).elim nI n2,(hsb.2 b λq=>nI (by rw [q];exact .head _)).trans (hkk b o (λq=>nI (by rw [q];exact .head _)) e0)⟩
   obtain ⟨pa,pb,hdat,q1,q2⟩:=hK i _ _ hkv
   erw [hdat]
   refine .tuple (vs:=[key,kvs[i].2]) (ep:=0) (bx.mpr ⟨(hsb.2 _ nT).trans hT,gi.fresh hnew,λq=>?_⟩) (by show 2<=1048576;w_fin) (.cons ((q1 key hkey).sub (hμ.trans k2)) (.cons (q2.sub (hμ.trans k2)) .nil))
   rcases aw q with q | q
   ·exact nT (aE q)
   ·obtain ⟨o,e0⟩:=hxx _ q
    rw [hnew] at e0;w_cond e0
  ·exact eX.upd (λb o nb e0=>(hsb.2 b λq=>nb (by rw [q];exact .head _)).trans (hkk b o (λq=>nb (by rw [q];exact .head _)) e0)) λa ha=>by erw [aE ha];exact ⟨hG,nc he₁⟩
  ·refine ih (i+1) { s₁ with heap:=h'' } _ (by w_fin) rfl ⟨key,kvs[i].2,he''⟩ λb o e0=>?_
   have b1:b≠it:=dZ hΦI e0
   exact (hsb.2 b b1).trans (hkk b o b1 (hΦ₁ b o e0))
noncomputable def wf:PV->Option String
 | .list _=>some "list"
 | .str _=>some "str"
 | .dS _ _=>some "dict"
 | .dI _ _=>some "dict"
 | _=>none
theorem pq {F v d T} (x:Data W F v d) (k:bF F s.heap) (h:wf d=some T):s.TypeIs v T/\∀ a,v= .ref a->∃ ob,s.heap.get? a=some ob/\ob.dict=none:=by
 cases x with
 | list e _ _=>w_cond h;exact ⟨⟨_,k _ _ e,rfl⟩,λa q=>by w_cond q;exact ⟨_,k _ _ e,rfl⟩⟩
 | str l t _=>w_cond h;exact ⟨rfl,λa q=>by w_cond q⟩
 | dI e _ _ _ _=>w_cond h;obtain ⟨o,es,g1,g2,_⟩:=e;exact ⟨⟨_,k _ _ g1,g2.1⟩,λa q=>by w_cond q;exact ⟨_,k _ _ g1,g2.2.1⟩⟩
 | dS e _ _ _ _ _=>w_cond h;obtain ⟨o,es,g1,g2,_⟩:=e;exact ⟨⟨_,k _ _ g1,g2.1⟩,λa q=>by w_cond q;exact ⟨_,k _ _ g1,g2.2.1⟩⟩
 | _=>w_cond h
set_option tactic.hygienic true in
theorem wv {o e es name apos pos T id fo fa fop} (k) (pa:PlainAttrs T) (slot:Slot T name id) (hty:typeOf (.builtin id)=pure (.type "method_descriptor")) (ho:SE W n fc o fo) (ha:gb W n fc (e::es) fa) (hop:gJ W k (λvs=>call (.builtin id) vs) fop) (hk:k<=n) (hbase:∀ env,attributeBase o name env (eval o env)=eval o env:=by w_left) (hfew:∀ env,((backTo pos (starEach (e::es) env)).all (λx=>!x.1)&&(backToKw pos (keywordEach [] env)).all (λx=>x.1.isSome)&&decide ((e::es).length + ([]:List Keyword).length + (if ([]:List Keyword).isEmpty then 0 else 1)<30))=true:=by w_left) (hline:(apos.endLine==pos.line)=true:=by rfl) (he:∀ env,starEach (e::es) env=(false,eval e env)::starEach es env:=by w_left) (hplain:∀ env,(backTo pos (starEach es env)).any (·.1)=false:=by w_left):
  SE W n fc (.Call (.Attribute o name apos) (e::es) [] pos) (λst=>(de fo st).bind λd=>if wf d=some T then (fa st).bind λds=>(fop (d::ds)).map .d else none):=by
 intro A env κ B ω st s sv hA x h
 obtain ⟨d,h1,h⟩:=ah h
 split at h
 ·rename_i hT
  obtain ⟨ds,h2,h⟩:=ah h
  obtain ⟨r,h3,rfl⟩:=aA h
  refine wpAny_Call_method (hbase env) (hfew env) hline pa slot hty (wpAny_mono (ho A env κ B ω st s _ hA x (aT h1)) (λov s₁ z=>?_) λU U q=>q)
  have x₁:=x.gr z.2
  obtain ⟨t1,t2⟩:=pq (s:=s₁) z.1 (av _ _ _) hT
  refine ⟨t1,t2,callWith_method1 (wpAny_mono (ha A env κ B ω st s₁ ds pos hA x₁ h2) (λvs s₂ w=>?_) λU U q=>q) (he env) (hplain env)⟩
  have x₂:=x₁.gr w.2
  exact wpAny_mono (hop A s₂ _ (ov::vs) (d::ds) r (hA.le hk) x₂.gi x₂.ex (.cons (Data.sub (bo _ w.2.kp) z.1) w.1) h3) (λv s₃ u=>⟨u.1,z.2.trans (w.2.trans u.2)⟩) λU U q=>q
 ·w_cond h
theorem n5 {o e apos pos fo fe} (ho:SE W n fc o fo) (he:SE W n fc e fe) (hst:∀ env,starEach [e] env=(false,eval e env)::starEach [] env:=by w_left) (hbase:∀ env,attributeBase o "join" env (eval o env)=eval o env:=by w_left) (hfew:∀ env,((backTo pos (starEach [e] env)).all (λx=>!x.1)&&(backToKw pos (keywordEach [] env)).all (λx=>x.1.isSome)&&decide ([e].length + ([]:List Keyword).length + (if ([]:List Keyword).isEmpty then 0 else 1)<30))=true:=by w_left) (hline:(apos.endLine==pos.line)=true:=by rfl):SE W n fc (.Call (.Attribute o "join" apos) [e] [] pos) (λst=>(de fo st).bind λd=>if wf d=some "str" then ((de fe st).bind λd=>(some []).map (d::·)).bind λds=>(zm (d::ds)).map .d else none):=
 wv 0 F.plainAttrs_str F.slot_str_join F.type_str_join ho (ad he ag hst) BU (Nat.zero_le _) hbase hfew hline hst
theorem FQ (zs:List PV) (k) (h:k=zs.length):zs=(List.range k).map (λj=>(zs[0 + j]?).getD .none):=by
 subst h
 refine List.ext_getElem (by simp) λi h1 h2=>?_
 simp [List.getElem?_eq_getElem h1]
theorem so {K:Type} [DecidableEq K] (knd:PySem.KeyKind W.prog W.w K) {elts kk p A μ a kvs ep} {zs:List PV} (gi:GI W s) (hA:A.handled=none) (hs:a≠sysModules) (e:(fz W s.heap μ).DictAt knd a kvs ep) (hl:kvs.length=zs.length) (hK:∀ (i:Nat) (k:K) (x:Value),kvs[i]? =some (k,x)->∃ pa pb,zs[i]? =some (.tuple [pa,pb])/\(∀ v:Value,knd.is k v=true->Data W (fz W s.heap μ) v pa)/\Data W (fz W s.heap μ) x pb):
  wpAny W.M A (call (.builtin "dict.items") [.ref a]) (jM W n (.Tuple elts kk p) A s μ zs) (λU U=>False) s:=by
 have e':=e.keep (av W s.heap μ)
 obtain ⟨o1,es1,g1,g2,_⟩:=id e
 have hn:s.heap.get? (s.heap.push { cls:= .type "dict_items",data:= .fields #[.ref a] }).objs.size=none:=by rw [Heap.size_push];exact Heap.get?_none_of_le (Nat.le_succ _)
 refine call_meetsIn F.slot_dict_items ⟨o1,av _ _ _ _ _ g1,g2.1⟩ F.entry_dict_items (F.args_dict_items_1 _) (meets_dict_items knd a (by simpa using hs)) ⟨⟨kvs,e'.dictOf⟩,?_⟩
 refine wpAny_pyIter_items (knd:=knd) (kvs:=kvs) (ep:=ep) ⟨_,Heap.get?_push_size _ rfl,rfl,rfl⟩ (e'.keep λb o e=>Heap.get?_push_of_some _ e) ?_
 have k1:∀ o:Obj,bF s.heap ((s.heap.push { cls:= .type "dict_items",data:= .fields #[.ref a] }).push o):=λo b o' e=>Heap.get?_push_of_some _ (Heap.get?_push_of_some _ e)
 have nΦ:(fz W s.heap μ).get? (s.heap.push { cls:= .type "dict_items",data:= .fields #[.ref a] }).objs.size=none:=by
  cases q:(fz W s.heap μ).get? (s.heap.push { cls:= .type "dict_items",data:= .fields #[.ref a] }).objs.size with
  | none=>rfl
  | some o=>rw [(bx.mp q).1] at hn;w_cond hn
 refine ⟨[_],[],fz W s.heap μ,(Gr.push _).trans (Gr.push _),ax λb o n1 n2 e=>⟨λq=>?_,k1 _ b o e⟩,λb hb=>by rw [aE hb];exact hn,λb hb=>by erw [aE hb];exact ⟨_,Heap.get?_push_size _ rfl,(c8 (T:="dict_itemiterator") rfl rfl (by decide) (by simp)).2.2⟩,(by intro j hj;w_cond hj),?_,λA s' Q E hA hΦ hI hQ=>kcp_self (hI _ (.head _) _ (Heap.get?_push_size _ rfl)) hQ⟩
 ·rcases aw q with q | q
  ·erw [aE q,hn] at e;w_cond e
  ·exact n2 q
 ·refine cV.items knd (gy g1 ((av _ _ _).trans λb o' e=>Heap.get?_push_of_some _ e)) e (λi=>(zs[i]?).getD .none) (λi k x hx=>?_) (b6 gi hn) nΦ kvs.length 0 _ zs (by w_fin) (FQ zs _ hl) ⟨_,_,Heap.get?_push_size _ rfl⟩ ((av _ _ _).trans (k1 _))
  obtain ⟨pa,pb,q1,q2,q3⟩:=hK i k x hx
  exact ⟨pa,pb,by rw [q1];rfl,q2,q3⟩
theorem qy {tgt A μ xs t} (g:Gr W s s₁) (h:wpAny W.M A t (jM W n tgt A s₁ μ xs) (λU U=>False) s₁):wpAny W.M A t (jM W n tgt A s μ xs) (λU U=>False) s₁:=by
 refine wpAny_mono h (λv s₂ w=>wpAny_mono w (λit s₃ u=>?_) λU U q=>q) λU U q=>q
 obtain ⟨I,J,Φ,a,b,c,d,e,f⟩:=u
 exact ⟨I,J,Φ,g.trans a,b,λb hb=>g.dom b (c b hb),d,λj hj=>gV g.gens (e j hj),f⟩
theorem pC {o elts kk p apos pos fo} (ho:SE W n fc o fo) (hbase:∀ env,attributeBase o "items" env (eval o env)=eval o env:=by w_left) (hfew:∀ env,((backTo pos (starEach [] env)).all (λx=>!x.1)&&(backToKw pos (keywordEach [] env)).all (λx=>x.1.isSome)&&decide (([]:List Expr).length + ([]:List Keyword).length + (if ([]:List Keyword).isEmpty then 0 else 1)<30))=true:=by w_left) (hline:(apos.endLine==pos.line)=true:=by rfl):
  wh W n fc (.Tuple elts kk p) (.Call (.Attribute o "items" apos) [] [] pos) (λst=>(de fo st).bind H8):=by
 intro A env κ B ω st s xs hA x h
 obtain ⟨d,h1,h2⟩:=ah h
 obtain ⟨⟨ks,ys⟩,hp,rfl⟩:=aA h2
 clear h h2
 refine wpAny_Call_method (hbase env) (hfew env) hline F.plainAttrs_dict F.slot_dict_items F.type_dict_items (wpAny_mono (ho A env κ B ω st s _ hA x (aT h1)) (λov s₁ z=>?_) λU U q=>q)
 obtain ⟨zd,g⟩:=z
 have x₁:=x.gr g
 have zd:=hU hp zd
 obtain ⟨t1,t2⟩:=pq (s:=s₁) zd (av _ _ _) rfl
 refine ⟨t1,t2,callWith_method0 (qy g ?_)⟩
 clear t1 t2
 cases zd using Data.dIE with | mk a kvs ep e n1 m1 b q=>
 have l1:=congrArg List.length m1
 have l2:=b.length
 rw [fJ] at l1
 rw [fJ] at l2
 refine so (PySem.intKind W.prog W.w) x₁.gi hA.hd q e (by rw [fJ,List.length_zip];w_fin) λi k u hx=>?_
 have f4:(kvs.map (·.1))[i]? =some k:=by rw [gY,hx];rfl
 rw [m1] at f4
 have f5:(kvs.map (·.2))[i]? =some u:=by rw [gY,hx];rfl
 obtain ⟨y,f6,f7⟩:=b.getV f5
 refine ⟨.int k,y,?_,λv hv=>?_,f7⟩
 ·rw [gY,(List.getElem?_zip_eq_some (z:=(k,y))).mpr ⟨f4,f6⟩];rfl
 ·obtain ⟨t,rfl⟩:=Value.isInt_shape hv
  exact .int _ _
theorem wg {K:Type} [DecidableEq K] (knd:PySem.KeyKind W.prog W.w K) {tgt:Expr} {A:Around} {μ:List Addr} {a:Addr} {kvs:List (K×Value)} {ep:Nat} {zs:List PV} (gi:GI W s) (hA:A.handled=none) (hs:a≠sysModules) (e:(fz W s.heap μ).DictAt knd a kvs ep)
  (hd:ae W (fz W s.heap μ) (kvs.map (·.2)) zs):
  wpAny W.M A (call (.builtin "dict.values") [.ref a]) (jM W n tgt A s μ zs) (λU U=>False) s:=by
 have e':=e.keep (av W s.heap μ)
 obtain ⟨o1,es1,g1,g2,_⟩:=id e
 have hl:=hd.length
 rw [fJ] at hl
 have k1:bF s.heap (s.heap.push { cls:= .type "dict_values",data:= .fields #[.ref a] }):=λb o' e=>Heap.get?_push_of_some _ e
 have gp:Gr W s { s with heap:=s.heap.push { cls:= .type "dict_values",data:= .fields #[.ref a] } }:=Gr.push _
 have e1:(fz W (s.heap.push { cls:= .type "dict_values",data:= .fields #[.ref a] }) μ).DictAt knd a kvs ep:=e.keep (bo μ gp.kp)
 refine call_meetsIn F.slot_dict_values ⟨o1,av _ _ _ _ _ g1,g2.1⟩ F.entry_dict_values (F.args_dict_values_1 _) (meets_dict_values knd a (by simpa using hs)) ⟨⟨kvs,e'.dictOf⟩,?_⟩
 refine wpAny_pyIter_values (knd:=knd) (kvs:=kvs) (ep:=ep) ⟨_,Heap.get?_push_size _ rfl,rfl,rfl⟩ (e'.keep k1) ?_
 refine yv (s₁:={ s with heap:=s.heap.push { cls:= .type "dict_values",data:= .fields #[.ref a] } }) (μ:=μ) gi gp (P:=λi v=>∃ k,kvs[i]? =some (k,v)) (St:=λi h=>h.IsValIter (s.heap.push { cls:= .type "dict_values",data:= .fields #[.ref a] }).objs.size a i kvs.length ep/\h.DictAt knd a kvs ep) (fp:=[(s.heap.push { cls:= .type "dict_values",data:= .fields #[.ref a] }).objs.size,a])
  (λA hA=>?_) (λb hb=>?_) (λi v d e1 e2=>?_) (λi h hs=>?_) ?_ rfl
 ·erw [<-hl]
  exact Walks.dictValues (knd:=knd) hA _ a (gy g1 ((av _ _ _).trans k1)) kvs ep
 ·rcases aX hb with q | q
  ·exact .inl q
  ·obtain ⟨o,_,q1,_⟩:=id e1
   exact .inr ⟨o,by rw [aE q];exact q1⟩
 ·obtain ⟨k,hk⟩:=e2
  have f5:(kvs.map (·.2))[i]? =some v:=by rw [gY,hk];rfl
  obtain ⟨y,f6,f7⟩:=hd.getV f5
  erw [e1] at f6;w_cond f6
  exact f7.sub (bo μ gp.kp)
 ·obtain ⟨o,q1,q2,q3⟩:=hs.1
  exact ⟨o,q1,_,_,q2,q3,by decide,by decide,by simp⟩
 ·exact ⟨⟨_,Heap.get?_push_size _ rfl,rfl,rfl⟩,(e'.keep k1).keep λb o e=>Heap.get?_push_of_some _ e⟩
theorem vj {tgt o apos pos fo} (ho:SE W n fc o fo) (hbase:∀ env,attributeBase o "values" env (eval o env)=eval o env:=by w_left) (hfew:∀ env,((backTo pos (starEach [] env)).all (λx=>!x.1)&&(backToKw pos (keywordEach [] env)).all (λx=>x.1.isSome)&&decide (([]:List Expr).length + ([]:List Keyword).length + (if ([]:List Keyword).isEmpty then 0 else 1)<30))=true:=by w_left) (hline:(apos.endLine==pos.line)=true:=by rfl):
  wh W n fc tgt (.Call (.Attribute o "values" apos) [] [] pos) (λst=>(de fo st).bind Iy):=by
 intro A env κ B ω st s xs hA x h
 obtain ⟨d,h1,h2⟩:=ah h
 obtain ⟨⟨ks,ys⟩,hp,rfl⟩:=aA h2
 clear h h2
 refine wpAny_Call_method (hbase env) (hfew env) hline F.plainAttrs_dict F.slot_dict_values F.type_dict_values (wpAny_mono (ho A env κ B ω st s _ hA x (aT h1)) (λov s₁ z=>?_) λU U q=>q)
 obtain ⟨zd,g⟩:=z
 have x₁:=x.gr g
 have zd:=hU hp zd
 obtain ⟨t1,t2⟩:=pq (s:=s₁) zd (av _ _ _) rfl
 refine ⟨t1,t2,callWith_method0 (qy g ?_)⟩
 clear t1 t2
 cases zd using Data.dIE with | mk a kvs ep e n1 m1 b q=>
 exact wg (PySem.intKind W.prog W.w) x₁.gi hA.hd q e b
end
noncomputable def dM (cells:List (Str×Addr)):List (Str×NameKind)->List (Str×Addr)->List (Str×Addr)
 | [],acc=>acc
 | (x,.free)::r,acc=>dM cells r ((x,(cells.lookup x).getD 0)::acc)
 | (x,_)::r,acc=>dM cells r acc
theorem A8 {cells acc}:dM cells [] acc=acc:=rfl
theorem A9 {cells x r acc}:dM cells ((x,.free)::r) acc=dM cells r ((x,(cells.lookup x).getD 0)::acc):=rfl
theorem pR (cells):∀ (names:List (Str×NameKind)) (acc:List (Str×Addr)),(∀ x,(x,NameKind.free)∈names->∃ c,cells.lookup x=some c)->∀ p∈dM cells names acc,p∈acc∨(cells.lookup p.1=some p.2/\(p.1,NameKind.free)∈names):=by
 intro zv
 induction zv with
 | nil=>exact λacc U p h=> .inl h
 | cons zc r ih=>
  obtain ⟨x,k⟩:=zc
  intro acc hf p h
  have hf':∀ x,(x,NameKind.free)∈r->∃ c,cells.lookup x=some c:=λy hy=>hf y (.tail _ hy)
  cases k with
  | free=>
   rcases ih _ hf' p h with h | h
   ·rcases aX h with rfl | h
    ·obtain ⟨c,hc⟩:=hf x (.head _)
     exact .inr ⟨by simp [hc],.head _⟩
    ·exact .inl h
   ·exact .inr ⟨h.1,.tail _ h.2⟩
  | _=>
   exact (ih _ hf' p h).imp id λh=>⟨h.1,.tail _ h.2⟩
theorem xj (cells):∀ (names:List (Str×NameKind)) (acc:List (Str×Addr)),∀ p∈acc,p∈dM cells names acc:=by
 intro zv
 induction zv with
 | nil=>exact λacc p h=>h
 | cons zc r ih=>
  obtain ⟨x,k⟩:=zc
  intro acc p h
  cases k with
  | free=>exact ih _ p (.tail _ h)
  | _=>exact ih _ p h
theorem gP (cells):∀ (names:List (Str×NameKind)) (acc:List (Str×Addr)) (x:Str),(x,NameKind.free)∈names->∃ c,(x,c)∈dM cells names acc:=by
 intro zv
 induction zv with
 | nil=>
  intro acc x h
  w_cond h
 | cons zc r ih=>
  obtain ⟨y,k⟩:=zc
  intro acc x h
  rcases aX h with e | h'
  ·w_cond e
   exact ⟨_,xj cells r _ _ (.head _)⟩
  ·(try clear h)
   cases k with
   | free=>exact ih _ x h'
   | _=>exact ih _ x h'
theorem iK (scope) (env) (hf:∀ x,(x,NameKind.free)∈scope.names->∃ c,env.cells.lookup x=some c):closureFor scope env=pure (dM env.cells scope.names []):=by
 unfold closureFor
 generalize scope.names=names at hf
 haveI key:∀ (names:List (Str×NameKind)) (acc:List (Str×Addr)),(∀ x,(x,NameKind.free)∈names->∃ c,env.cells.lookup x=some c)->
   (forIn names acc (λx cs=>match x with
    | (name,kind)=>if (kind==NameKind.free)=true then do let a<-cellOf env name;pure (ForInStep.yield ((name,a)::cs)) else pure (ForInStep.yield cs)):Sem (List (Str×Addr)))=pure (dM env.cells names acc):=by
  intro names
  induction names with
  | nil=>intro acc _;rfl
  | cons p r ih=>
   intro acc hf
   obtain ⟨x,k⟩:=p
   cases k with
   | free=>
    obtain ⟨c,hc⟩:=hf x (.head _)
    haveI:cellOf env x=pure c:=by unfold cellOf;erw [hc]
    simp only [A8,A9,hc,Option.getD_some]
    rw [<-ih _ λy hy=>hf y (.tail _ hy)]
    simp [this]
   | _=>
    show _=pure (dM env.cells r acc)
    erw [<-ih _ λy hy=>hf y (.tail _ hy)]
    simp
 have:=key names [] hf
 rw [bind_pure]
 exact this
theorem cy:∀ (names:List (Str×NameKind)) (n:Nat) (acc:List (Str×Addr)),cellsFrom n names acc=cellsFrom n names []++acc:=by
 intro zv
 induction zv with
 | nil=>exact λn acc=>rfl
 | cons zc r ih=>
  obtain ⟨x,k⟩:=zc
  intro n acc
  unfold cellsFrom
  split
  ·rw [ih (n+1) ((x,n)::acc),ih (n+1) [(x,n)]];simp
  ·exact ih n acc
set_option tactic.hygienic true in
theorem fB:∀ (names:List (Str×NameKind)) (n:Nat),∀ p∈cellsFrom n names [],(p.1,NameKind.cell)∈names:=by
 intro zv
 induction zv with
 | nil=>
  intro n p h
  w_cond h
 | cons zc r ih=>
  obtain ⟨x,k⟩:=zc
  intro n p h
  unfold cellsFrom at h
  split at h
  ·rename_i hk
   rw [cy] at h
   rcases aw h with h | h
   ·exact .tail _ (ih _ p h)
   ·erw [aE h,beq_iff_eq.mp hk];exact .head _
  ·exact .tail _ (ih _ p h)
theorem iJ:∀ (names:List (Str×NameKind)) (n:Nat) (x:Str),(x,NameKind.cell)∈names->∃ c,(x,c)∈cellsFrom n names []:=by
 intro zv
 induction zv with
 | nil=>
  intro n x h
  w_cond h
 | cons zc r ih=>
  obtain ⟨y,k⟩:=zc
  intro n x h
  unfold cellsFrom
  rcases aX h with e | h
  ·w_cond e
   rw [cy]
   exact ⟨n,lR _ (.head _)⟩
  ·split
   ·rw [cy]
    obtain ⟨c,hc⟩:=ih (n+1) x h
    exact ⟨c,cY _ hc⟩
   ·exact ih n x h
set_option tactic.hygienic true in
theorem vw:∀ (names:List (Str×NameKind)) (n:Nat),(names.map (·.1)).Nodup->∀ {x:Str} {c c':Addr},(x,c)∈cellsFrom n names []->(x,c')∈cellsFrom n names []->c=c':=by
 intro zv
 induction zv with
 | nil=>
  intro n _ x c c' h _
  w_cond h
 | cons zc r ih=>
  obtain ⟨y,k⟩:=zc
  intro n hn x c c' h h'
  simp only [List.map_cons,List.nodup_cons] at hn
  have no:∀ c n,(y,c)∉cellsFrom n r []:=λc n q=>hn.1 (List.mem_map.mpr ⟨_,fB r n _ q,rfl⟩)
  unfold cellsFrom at h h'
  split at h
  ·rename_i hk
   rw [if_pos hk] at h'
   rw [cy] at h h'
   rcases aw h with h | h <;> rcases aw h' with h' | h'
   ·exact ih (n+1) hn.2 h h'
   ·cases aE h';exact absurd h (no _ _)
   ·cases aE h;exact absurd h' (no _ _)
   ·cases aE h;cases aE h';rfl
  ·rename_i hk
   rw [if_neg hk] at h'
   exact ih n hn.2 h h'
theorem bh {α:Type}:∀ {l:List (Str×α)} {x:Str} {c:α},(x,c)∈l->∃ c',l.lookup x=some c':=by
 intro zv
 induction zv with
 | nil=>exact λh=>mN h
 | cons zc r ih=>
  intro x c h
  obtain ⟨k,v⟩:=zc
  rw [List.lookup_cons]
  cases hb:x==k with
  | true=>exact ⟨v,rfl⟩
  | false=>
   rcases aX h with e | h
   ·w_cond e;simp at hb
   ·exact ih h
theorem eP {α:Type} {x:Str}:∀ (l1 l2:List (Str×α)),(l1++l2).lookup x=match l1.lookup x with | some c=>some c | none=>l2.lookup x:=by
 intro zv
 induction zv with
 | nil=>exact λl2=>rfl
 | cons zc r ih=>
  obtain ⟨k,v⟩:=zc
  intro l2
  rw [List.cons_append,List.lookup_cons,List.lookup_cons]
  cases x==k with
  | true=>rfl
  | false=>exact ih l2
section
variable {n:Nat} {fc:FC} {env:Env} {s:Shared} {μ ν:List Addr}
noncomputable def ck (s:Shared) (T:String) (names:List (Str×NameKind)):Heap:=pushCells (s.heap.push { cls:= .type T,data:= .dict #[] }) names
theorem d8 (s) (T) (names):bF s.heap (ck s T names):=λb o e=>pushCells_keeps _ _ b o (Heap.get?_push_of_some _ e)
theorem k8 (T:String) (names:List (Str×NameKind)) (cl:List (Str×Addr)) (cmc:Str->Option Value) (tk:Nat) (st:List SV) (g:GI W s) (ex:Ex s μ) (hν:∀ b∈ν,b∈μ) (hnr:∀ b∈ν,∀ o,s.heap.get? b=some o->dq o) (eo:cx fc env) (hloc:env.locals=s.heap.objs.size) (hcells:env.cells=cellsFrom (s.heap.objs.size+1) names []++cl)
  (hcl:∀ x c,cl.lookup x=some c->s.heap.IsCell c (cmc x)/\c∉ν) (hinj:∀ x y c,cl.lookup x=some c->cl.lookup y=some c->x=y) (hw:∀ x∈fc.wn,(x,NameKind.cell)∈names)
  (hhas:∀ (x:Str) (k:NameKind),(x,k)∈fc.names->(k= .cell∨k= .free)->(x,NameKind.cell)∈names∨∃ c,cl.lookup x=some c) (nd:(fc.names.map (·.1)).Nodup) (hnn:(names.map (·.1)).Nodup) (hlen:st.length=fc.names.length)
  (hst:∀ (i:Nat) (sv:SV),st[i]? =some sv->sv= .u∨∃ x k v c,fc.names[i]? =some (x,k)/\(k= .cell∨k= .free)/\(x,NameKind.cell)∉names/\cl.lookup x=some c/\cmc x=some v/\dm W s.heap μ ν v sv/\∀ d,sv≠ .own d):
  ∃ κ,bD W fc env κ ⟨μ,ν⟩ [env.locals] st { s with heap:=ck s T names,toks:=tk }/\∀ b∈κ,s.heap.get? b=none:=by
 have hL:s.heap.get? s.heap.objs.size=none:=aK _
 have sub:=d8 s T names
 have ok:=cellsFrom_ok names (s.heap.push { cls:= .type T,data:= .dict #[] }) (s.heap.objs.size+1) [] ⟨λU U hm=>(nomatch hm),List.Pairwise.nil⟩ (by rw [Heap.size_push];exact Nat.le_refl _)
 rw [Heap.size_push] at ok
 have hnew:∀ x c,(x,c)∈cellsFrom (s.heap.objs.size+1) names []->(ck s T names).IsCell c none/\s.heap.get? c=none/\c≠s.heap.objs.size:=λx c h=>⟨(ok.empty x c h).1,Heap.get?_none_of_le (Nat.le_trans (Nat.le_succ _) (ok.empty x c h).2),λq=>Nat.not_succ_le_self _ (q ▸ (ok.empty x c h).2)⟩
 have hκ:∀ b∈(cellsFrom (s.heap.objs.size+1) names []).map (·.2),s.heap.get? b=none:=λb hb=>by
  obtain ⟨p,hp,rfl⟩:=iW hb
  exact (hnew p.1 p.2 hp).2.1
 have lk:∀ x c,env.cells.lookup x=some c->((x,c)∈cellsFrom (s.heap.objs.size+1) names [])∨((cellsFrom (s.heap.objs.size+1) names []).lookup x=none/\cl.lookup x=some c):=λx c h=>by
  rw [hcells,eP] at h
  cases e:(cellsFrom (s.heap.objs.size+1) names []).lookup x with
  | some c'=>rw [e] at h;w_cond h;exact .inl (mem_of_lookup e)
  | none=>erw [e] at h;exact .inr ⟨rfl,h⟩
 have Lw:(ck s T names).Ns env.locals λU=>none:=by
  rw [hloc];exact (Heap.Ns.new s.heap (.type T)).keeps (pushCells_keeps _ _)
 haveI hidE:∀ b∈aq ⟨μ,ν⟩ ((cellsFrom (s.heap.objs.size+1) names []).map (·.2)) [env.locals],b∈μ∨s.heap.get? b=none:=λb hb=>by
  simp only [aq,List.mem_append] at hb
  rcases hb with h | h | h
  ·exact .inl h
  ·exact .inr (hκ b h)
  ·erw [aE h,hloc];exact .inr hL
 have hmv:Mv W s.heap (ck s T names) μ (aq ⟨μ,ν⟩ ((cellsFrom (s.heap.objs.size+1) names []).map (·.2)) [env.locals]) ν (bw ⟨μ,ν⟩ [env.locals]):=by
  refine ⟨ax λb o n1 n2 e=>⟨λq=>?_,sub b o e⟩,ax λb o n1 n2 e=>⟨λq=>?_,sub b o e⟩⟩
  ·rcases hidE b q with q | q
   ·exact n2 q
   ·rw [q] at e;w_cond e
  ·simp only [bw,List.mem_append] at q
   rcases q with q | q
   ·exact n2 q
   ·rw [aE q,hloc,hL] at e;w_cond e
 refine ⟨(cellsFrom (s.heap.objs.size+1) names []).map (·.2),⟨λU=>none,λx=>if (cellsFrom (s.heap.objs.size+1) names []).lookup x=none then cmc x else none,{
  gi:=g.sub sub
  eo:=eo
  ns:=Lw
  lω:= .head _
  cells:=λx c h=>?_
  inj:=λx y c h1 h2=>?_
  cw:=λx hx=>?_
  κc:=λb hb=>?_
  νμ:=hν
  cν:=λx c h q=>?_
  cω:=λx c h q=>?_
  has:=λi x k h hk=>?_
  vars:=λi sv h=>?_
  apart:=λi j d d' xk yk a h1=>?_
  noL:=λi d xk a h1=>?_
  oω:=λi d xk a h1=>?_
  dj:=λb hb q=>?_
  nd:=nd
  len:=hlen
  ex:=λb hb=>?_
  nc:=λb hb o e=>?_
  gn:=λb hb=>?_
  hL:=by erw [hloc];exact g.size }⟩,hκ⟩
 ·rcases lk x c h with h | ⟨h1,h2⟩
  ·obtain ⟨c',hc'⟩:=bh h
   rw [if_neg (by rw [hc'];simp)]
   exact (hnew x c h).1
  ·rw [if_pos h1]
   exact (hcl x c h2).1.keeps sub
 ·rcases lk x c h1 with h1 | ⟨h1,h1'⟩ <;> rcases lk y c h2 with h2 | ⟨h2,h2'⟩
  ·exact name_of_addr ok.apart h1 h2
  ·obtain ⟨o,e,_⟩:=(hcl y c h2').1
   rw [(hnew x c h1).2.1] at e;w_cond e
  ·obtain ⟨o,e,_⟩:=(hcl x c h1').1
   rw [(hnew y c h2).2.1] at e;w_cond e
  ·exact hinj x y c h1' h2'
 ·obtain ⟨c,hc⟩:=iJ names (s.heap.objs.size+1) x (hw x hx)
  obtain ⟨c',hc'⟩:=bh hc
  exact ⟨c',by rw [hcells,eP,hc'],List.mem_map.mpr ⟨(x,c'),mem_of_lookup hc',rfl⟩⟩
 ·obtain ⟨p,hp,rfl⟩:=iW hb
  obtain ⟨c',hc'⟩:=bh (x:=p.1) (c:=p.2) hp
  have:=vw names (s.heap.objs.size+1) hnn hp (mem_of_lookup hc')
  exact ⟨p.1,by erw [hcells,eP,hc',this]⟩
 ·rcases lk x c h with h | ⟨h1,h2⟩
  ·obtain ⟨o,e⟩:=ex c (hν c q)
   rw [(hnew x c h).2.1] at e;w_cond e
  ·exact (hcl x c h2).2 q
 ·erw [aE q,hloc] at h
  rcases lk x _ h with h | ⟨h1,h2⟩
  ·exact (hnew x _ h).2.2 rfl
  ·obtain ⟨o,e,_⟩:=(hcl x _ h2).1
   rw [hL] at e;w_cond e
 ·erw [hcells]
  rcases hhas x k (List.mem_of_getElem? h) hk with h | ⟨c,h⟩
  ·obtain ⟨c,hc⟩:=iJ names (s.heap.objs.size+1) x h
   obtain ⟨c',hc'⟩:=bh hc
   exact ⟨c',by erw [eP,hc']⟩
  ·erw [eP]
   cases (cellsFrom (s.heap.objs.size+1) names []).lookup x with
   | some c'=>exact ⟨c',rfl⟩
   | none=>exact ⟨c,h⟩
 ·rcases hst i sv h with h | ⟨x,k,v,c,h1,h2,h3,h4,h5,h6,h7⟩
  ·exact .inl h
  ·have hno:(cellsFrom (s.heap.objs.size+1) names []).lookup x=none:=by
    cases e:(cellsFrom (s.heap.objs.size+1) names []).lookup x with
    | none=>rfl
    | some c'=>exact absurd (fB names _ _ (mem_of_lookup e)) h3
   refine .inr ⟨(x,k),v,h1,by rcases h2 with rfl | rfl <;> rfl,?_,h6.move hmv λd e=>absurd e (h7 d)⟩
   rcases h2 with rfl | rfl <;> simp only [bp,hno,if_true,h5]
 ·rcases hst i _ h1 with h | ⟨_,_,_,_,_,_,_,_,_,_,h⟩
  ·w_cond h
  ·exact absurd rfl (h d)
 ·rcases hst i _ h1 with h | ⟨_,_,_,_,_,_,_,_,_,_,h⟩
  ·w_cond h
  ·exact absurd rfl (h d)
 ·rcases hst i _ h1 with h | ⟨_,_,_,_,_,_,_,_,_,_,h⟩
  ·w_cond h
  ·exact absurd rfl (h d)
 ·obtain ⟨o,e⟩:=ex b q
  rw [aE hb,hloc,hL] at e;w_cond e
 ·simp only [aq,List.mem_append] at hb
  rcases hb with h | h | h
  ·obtain ⟨o,e⟩:=ex b h
   exact ⟨o,sub b o e⟩
  ·obtain ⟨p,hp,rfl⟩:=iW h
   obtain ⟨o,e,_⟩:=(hnew p.1 p.2 hp).1
   exact ⟨o,e⟩
  ·erw [aE h]
   obtain ⟨o,e,_⟩:=aI Lw
   exact ⟨o,e⟩
 ·rcases aw hb with h | h
  ·obtain ⟨o',e'⟩:=ex b (hν b h)
   have:=sub b o' e'
   rw [e] at this;w_cond this
   exact hnr b h o e'
  ·rw [aE h] at e
   obtain ⟨o',e',hd⟩:=aI Lw
   rw [e] at e';w_cond e';exact .of hd
 ·refine b6 g ?_
  rcases aw hb with h | h
  ·exact hκ b h
  ·erw [aE h,hloc];exact hL
end
def rF (W:Wd) (n:Nat) (fc:FC) (ifs:List Expr) (f:List SV->Option Bool):Prop:=
 ∀ (A:Around) (env:Env) (κ:List Addr) (B:aN) (ω:List Addr) (st:List SV) (s:Shared) (b:Bool),cf n A->bD W fc env κ B ω st s->f st=some b->
  wpAny W.M A (forIn ifs true λc r=>if r=true then do let ok<-isTrue c env (eval c env);pure (ForInStep.yield ok) else pure (ForInStep.yield r)) (λok s'=>ok=b/\Gr W s s') (λU U=>False) s
def Jl (W:Wd) (n:Nat) (fc:FC) (t:Value->Env->Sem Unit) (f:List SV->PV->Option (List SV×PV)):Prop:=
 ∀ (A:Around) (env:Env) (κ:List Addr) (B:aN) (ω:List Addr) (st:List SV) (s:Shared) (D:Addr) (d:PV) (out:List SV×PV),cf n A->bD W fc env κ B ω st s->D∈B.ν->W.G.get? D=none->aB W s.heap (fz W s.heap (aq B κ ω)) D d->f st d=some out->
  wpAny W.M A (t (.ref D) env) (λU s'=>bD W fc env κ B ω out.1 s'/\aB W s'.heap (fz W s'.heap (aq B κ ω)) D out.2/\bR W κ (D::ω) s s') (λU U=>False) s
noncomputable def cH (ftg:List SV->PV->Option (List SV)) (fif:List SV->Option Bool) (fel:List SV->PV->Option (List SV×PV)):List PV->List SV->PV->Option (List SV×PV)
 | [],st,a=>some (st,a)
 | x::xs,st,a=>(ftg st x).bind λst1=>(fif st1).bind λb=>if b then (fel st1 a).bind λp=>cH ftg fif fel xs p.1 p.2 else cH ftg fif fel xs st1 a
theorem pU {ftg fif fel st a}:cH ftg fif fel [] st a=some (st,a):=rfl
theorem fN {ftg fif fel x xs st a}:cH ftg fif fel (x::xs) st a=(ftg st x).bind λst1=>(fif st1).bind λb=>if b then (fel st1 a).bind λp=>cH ftg fif fel xs p.1 p.2 else cH ftg fif fel xs st1 a:=rfl
def KI (W:Wd) (n:Nat) (fc:FC) (e:Expr) (dep:Nat) (tgt:Expr) (f:List PV->List SV->PV->Option (List SV×PV)):Prop:=
 ∀ (A:Around) (env:Env) (κ:List Addr) (B:aN) (ω:List Addr) (st:List SV) (s₀ s:Shared) (D:Addr) (d:PV) (xs:List PV) (I:List Addr) (J:List Nat) (Φ:Heap) (it:Value) (out:List SV×PV),cf n A->(∀ b∈B.ν,b∈B.μ)->
  bD W fc env κ ⟨I++B.μ,I++B.ν⟩ ω st s->D∈B.ν->W.G.get? D=none->aB W s.heap (fz W s.heap (aq ⟨I++B.μ,I++B.ν⟩ κ ω)) D d->bF Φ (fz W s.heap (aq ⟨I++B.μ,I++B.ν⟩ κ ω))->
  GI W s₀->bR W κ (D::ω) s₀ s->(∀ b∈I,s₀.heap.get? b=none)->(∀ b∈I,b∉B.μ)->(∀ j∈J,s₀.gens[j]? =none)->cV W n tgt Φ it xs I J s->f xs st d=some out->
  codeAny W.M A (.compLoop e dep it (.ref D) env) (λr s'=>r= .ok .next/\bD W fc env κ B ω out.1 s'/\aB W s'.heap (fz W s'.heap (aq B κ ω)) D out.2/\bR W κ (D::ω) s₀ s') s
section
variable {n:Nat} {fc:FC} {env:Env} {κ:List Addr} {B:aN} {ω:List Addr} {st:List SV} {s s':Shared} {m cm:Str->Option Value}
theorem bS:rF W n fc [] (λU=>some true):=by
 intro A env κ B ω st s b hA x h
 w_cond h
 exact wpAny_pure ⟨rfl,Gr.refl _ _⟩
theorem dl {c f} (hf:ST W n fc c f):rF W n fc [c] f:=by
 intro A env κ B ω st s b hA x h
 rw [List.forIn_cons]
 refine wpAny_bind (wpAny_bind (wpAny_mono (hf A env κ B ω st s b hA x h) (λok s₁ z=>wpAny_pure ?_) λU U q=>q))
 exact wpAny_pure z
theorem aB.noCode {h F a d} (c:aB W h F a d):∃ o,h.get? a=some o/\eF o:=by
 cases c with
 | list g _ _=>exact ⟨_,g,by simp [cj],by simp [cj],λvs q t e=>by w_cond e⟩
 | dS g _ _ _ _ _=>obtain ⟨o,es,g1,g2,g3,_⟩:=g;exact ⟨o,g1,by rw [g2.1];simp,by rw [g2.1];simp,λvs q t e=>by rw [g3] at e;w_cond e⟩
 | dI g _ _ _ _=>obtain ⟨o,es,g1,g2,g3,_⟩:=g;exact ⟨o,g1,by rw [g2.1];simp,by rw [g2.1];simp,λvs q t e=>by rw [g3] at e;w_cond e⟩
theorem bR.more {ω'} (x:bR W κ ω s s') (h:∀ b∈ω,b∈ω'):bR W κ ω' s s':=
 ⟨x.kp.mono λb hb=>by
   simp only [List.mem_append] at hb ⊢
   exact hb.imp id λq=>q.imp id (h b),x.gens,x.os,x.dom⟩
theorem to {D d d' F h' tk} (x:bD W fc env κ B ω st s) (hD:D∈B.ν) (hG:W.G.get? D=none) (c:aB W s.heap F D d) (hs:Heap.SameBut D s.heap h') (c':aB W h' (fz W h' (aq B κ ω)) D d'):
  bD W fc env κ B ω st { s with heap:=h',toks:=tk }/\bR W κ (D::ω) s { s with heap:=h',toks:=tk }:=by
 obtain ⟨o,ho,hn⟩:=c.noCode
 obtain ⟨o',ho',hd'⟩:=c'.ex
 haveI k:eX W [D] [] s { s with heap:=h',toks:=tk }:=eX.upd (λb o nb e=>(hs.2 b λq=>nb (by rw [q];exact .head _)).trans e) λa ha=>by erw [aE ha];exact ⟨hG,o,ho,hn⟩
 refine ⟨x.grI k (λb hb=>by erw [aE hb];exact hD) λb hb=>by erw [aE hb];exact ⟨o',ho',.of hd'⟩,λb o nb e=>(hs.2 b λq=>nb (by rw [q];simp)).trans e,λU U e=>e,rfl,j5 hs ⟨o',ho'⟩⟩
theorem wB {elt:Expr} {f:List SV->Option SV} (hf:SE W n fc elt f):Jl W n fc (λacc env=>do let _<-call (.builtin "list.append") [acc,<-eval elt env]) (λst a=>(de f st).bind λy=>match a with | .list ys=>(b9 (ys++[y])).map (st,·) | _=>none):=by
 intro A env κ B ω st s D d out hA x hD hG c h
 obtain ⟨y,h1,h2⟩:=ah h
 cases d with
 | list ys=>
  (try clear h);obtain ⟨r,h3,rfl⟩:=aA h2
  ·obtain ⟨hl,h3⟩:=bI h3
   w_cond h3
   refine wpAny_bind (wpAny_mono (hf A env κ B ω st s _ hA x (aT h1)) (λv s₁ z=>?_) λU U q=>q)
   have x₁:=x.gr z.2
   obtain ⟨o,ho,hd⟩:=c.ex
   have c₁:aB W s₁.heap (fz W s₁.heap (aq B κ ω)) D (.list ys):=c.move (λo e=>z.2.kp _ _ (x.gi.notin ho hd) e) (bo _ z.2.kp)
   cases c₁ using aB.listE with | mk vs ep g n1 b=>
   refine wpAny_bind (call_meets slot_list_append ⟨_,g,rfl⟩ entry_list_append (args_list_append _ _) (PySem.list_append D _ _ v (by rw [List.size_toArray];exact bj n1)) ⟨g,?_⟩)
   obtain ⟨ep',e'⟩:=fY (us:=vs++[v]) g (λx_1=>x_1.push v) (by simp)
   haveI hsb:Heap.SameBut D s₁.heap (s₁.heap.update D (Obj.mapSeq λx_1=>x_1.push v)):=Heap.SameBut.update ..
   haveI hDh:D∈aq B κ ω:=cY _ (x₁.νμ D hD)
   haveI sub:=gU hsb hDh
   haveI hb:=b.length
   rw [jt] at hl
   have c₂:aB W (s₁.heap.update D (Obj.mapSeq λx_1=>x_1.push v)) (fz W (s₁.heap.update D (Obj.mapSeq λx_1=>x_1.push v)) (aq B κ ω)) D (.list (ys++[y])):= .list e' (by rw [jt,hb];exact hl) ((b.sub sub).snoc (Data.sub sub z.1))
   obtain ⟨x₂,g₂⟩:=to (tk:=s₁.toks) x₁ hD hG (aB.list (F:=fz W s₁.heap (aq B κ ω)) g n1 b) hsb c₂
   exact wpAny_pure ⟨x₂,c₂,(bR.of_gr z.2).trans (λb hb=> .inl hb) g₂⟩
 | _=>w_cond h2
theorem wA {kx vx:Expr} {fk fv:List SV->Option SV} (hk:SE W n fc kx fk) (hv:SE W n fc vx fv):
  Jl W n fc (λacc env=>do
    let kv<-eval kx env
    let vv<-holding [kv] (eval vx env)
    match acc with
    | .ref d=>do
     standAt { kx.pos with endLine:=vx.pos.endLine,endCol:=vx.pos.endCol }
     holding [kv,vv] (dictSet d kv vv)
    | _=>unsupported "internal:dictcomp") (λst a=>(de fk st).bind λk=>(de fv st).bind λv=>match a with | .list _=>none | _=>(iZ a k v).map (st,·)):=by
 intro A env κ B ω st s D d out hA x hD hG c h
 obtain ⟨dk,h1,h2⟩:=ah h
 obtain ⟨dv,h3,h4⟩:=ah h2
 refine wpAny_bind (wpAny_mono (hk A env κ B ω st s _ hA x (aT h1)) (λkv s₁ z1=>?_) λU U q=>q)
 have x₁:=x.gr z1.2
 refine wpAny_bind (wpAny_holding (wpAny_mono (hv A env κ B ω st s₁ _ hA x₁ (aT h3)) (λvv s₂ z2=>?_) λU U q=>q))
 have x₂:=x₁.gr z2.2
 have g:=z1.2.trans z2.2
 obtain ⟨o,ho,hd⟩:=c.ex
 have c₂:aB W s₂.heap (fz W s₂.heap (aq B κ ω)) D d:=c.move (λo e=>g.kp _ _ (x.gi.notin ho hd) e) (bo _ g.kp)
 haveI k₂:Data W (fz W s₂.heap (aq B κ ω)) kv dk:=Data.sub (bo _ z2.2.kp) z1.1
 haveI hDh:D∈aq B κ ω:=cY _ (x₂.νμ D hD)
 (try clear h);(try clear h2);obtain ⟨d',hl,hp,rfl⟩:∃ d',pA d=none/\iZ d dk dv=some d'/\(st,d')=out:=by
  obtain ⟨d',hp,e⟩:=aA (show (match d with | .list _=>none | _=>iZ d dk dv).map (st,·)=some out by cases d <;> exact h4)
  (try clear h4);cases d <;> first
   | exact nS hp
   | exact ⟨d',rfl,hp,e⟩
 refine wpAny_bind (wpAny_standAt (wpAny_holding (wpAny_mono (p7 c₂ hDh k₂ z2.1 hp hl λa b c d=>wpAny_dictSet_pairs a b c d) (λU s₃ z3=>?_) λU U q=>q)))
 obtain ⟨h',tk,rfl,hsb,c₃⟩:=z3
 obtain ⟨x₃,g₃⟩:=to (tk:=tk) x₂ hD hG c₂ hsb c₃
 exact ⟨x₃,c₃,(bR.of_gr g).trans (λb hb=> .inl hb) g₃⟩
def DX (e:Expr) (dep:Nat) (tgt:Expr) (ifs:List Expr) (p:Pos) (emit:Value->Env->Sem Unit):Prop:=∀ (it acc:Value) (env:Env),compTurn e dep it acc env=(do
 standAt p
 match<-pyNext it with
 | none=>pure (.done .next)
 | some v=>
  letOwnedTupleGo tgt it v
  assign tgt env v
  let mut ok:=true
  for c in ifs do
   if ok then ok<-isTrue c env (eval c env)
  if ok then emit acc env
  again (.compLoop e dep it acc env))
def te (W:Wd) (n:Nat) (fc:FC) (env:Env) (κ:List Addr) (B:aN) (ω:List Addr) (s₀:Shared) (tgt:Expr) (Φ:Heap) (it:Value) (D:Addr) (R:List PV->List SV->PV->Prop) (k:Nat) (s₃:Shared):Prop:=
 ∃ xs st₁ d₁ I J,k=xs.length+1/\bD W fc env κ ⟨I++B.μ,I++B.ν⟩ ω st₁ s₃/\aB W s₃.heap (fz W s₃.heap (aq ⟨I++B.μ,I++B.ν⟩ κ ω)) D d₁/\cV W n tgt Φ it xs I J s₃/\bF Φ (fz W s₃.heap (aq ⟨I++B.μ,I++B.ν⟩ κ ω))/\
   R xs st₁ d₁/\bR W κ (D::ω) s₀ s₃/\(∀ b∈I,s₀.heap.get? b=none)/\(∀ b∈I,b∉B.μ)/\(∀ j∈J,s₀.gens[j]? =none)
theorem ij {e dep tgt ifs p emit ftg fif fel} (heq:DX e dep tgt ifs p emit) (hden:∀ it acc env,W.M.den (.compLoop e dep it acc env)=(compTurn e dep it acc env).onRaise (λx=>do noteFrame x env;theTreesLotGoes x)) (hund:∀ (A:Around) it acc env,A.under (.compLoop e dep it acc env)=A) (hq:∀ it acc env,(Code.compLoop e dep it acc env).quiet=true) (ht:tm W fc tgt ftg) (hi:rF W n fc ifs fif) (hem:Jl W n fc emit fel):KI W n fc e dep tgt (cH ftg fif fel):=by
 intro A env κ B ω st s₀ s D d xs I J Φ it out hA hν x hD hG c hΦ gi₀ g hI hIB hJ hit h
 refine codeAny_loop (hq _ _ _) (te W n fc env κ B ω s₀ tgt Φ it D (λxs st d=>cH ftg fif fel xs st d=some out)) (λk s₃ hk=>?_) (xs.length+1) ⟨xs,st,d,I,J,rfl,x,c,hit,hΦ,h,g,hI,hIB,hJ⟩
 rw [hden,hund]
 refine wpAny_noted ?_
 rw [heq]
 obtain ⟨xs,st₁,d₁,I,J,rfl,x₁,c₁,hit,hΦ,h,g₁,hI,hIB,hJ⟩:=hk
 haveI hΦ':bF Φ s₃.heap:=hΦ.trans (av _ _ _)
 haveI hIν:∀ b∈I,b∈(aN.mk (I++B.μ) (I++B.ν)).ν:=λb hb=>cY _ hb
 have hDI:D∉I:=λq=>hIB D q (hν D hD)
 obtain ⟨oD,hoD,hdD⟩:=c₁.ex
 have e1':∀ X:List Addr,aq ⟨X++B.μ,X++B.ν⟩ κ ω=X++aq B κ ω:=λX=>kr ..
 cases xs with
 | nil=>
  w_cond h
  refine wpAny_bind (wpAny_standAt (wpAny_bind (wpAny_mono (hit A s₃ hA x₁.gi hΦ' (λU U U e=>e) (λU U U e=>e) (λU e=>e)) (λr s₄ y=>?_) λU U q=>q.elim)))
  obtain ⟨rfl,k⟩:=y
  refine wpAny_pure ⟨rfl,x₁.grI0 k hν hIB,c₁.move (λo e=>?_) ?_,g₁.grI k hI hJ⟩
  ·ctx_has hoD e
   exact k.kp _ _ (λq=>(aw q).elim (x₁.gi.notin hoD hdD) hDI) hoD
  ·rw [e1']
   exact ax λb o n1 n2 e=>⟨λq=>n2 (lR _ q),k.kp b o (λq=>(aw q).elim n1 λq=>n2 (cY _ q)) e⟩
 | cons y0 xs=>
  obtain ⟨st₂,h3,h⟩:=ah h
  obtain ⟨b,h4,h⟩:=ah h
  refine wpAny_bind (wpAny_standAt (wpAny_bind (wpAny_mono (hit A s₃ hA x₁.gi hΦ' (λU U U e=>e) (λU U U e=>e) (λU e=>e)) (λr s₄ y=>?_) λU U q=>q.elim)))
  obtain ⟨v,rfl,y⟩:=y
  refine wpAny_bind (wpAny_mono y (λU s₅ y=>?_) λU U q=>q.elim)
  obtain ⟨I',J',hd,k,hI',hEx,hEx',hJ',hit'⟩:=y
  have hfr:∀ b∈I',s₀.heap.get? b=none:=λb hb=>(hI' b hb).elim (hI b) λe=>g₁.dom b e
  have hfB:∀ b∈I',b∉B.μ:=λb hb q=>(hI' b hb).elim (λh=>hIB b h q) λe=>by
   obtain ⟨o,e'⟩:=x₁.ex b (by rw [e1'];exact lR _ (cY _ q))
   rw [e] at e';w_cond e'
  haveI hfJ:∀ j∈J',s₀.gens[j]? =none:=λj hj=>(hJ' j hj).elim (hJ j) λe=>gV g₁.gens e
  haveI x₅:=x₁.grI k hIν hEx
  haveI hN:∀ b∈I'.filter (λb=>(s₃.heap.get? b).isNone),s₃.heap.get? b=none:=λb hb=>by simpa using (List.mem_filter.mp hb).2
  haveI x₆:=x₅.more' x₁ k hIν hEx hN λb hb=>hEx' b (List.mem_filter.mp hb).1
  have hsub:∀ b∈I',b∈I'.filter (λb=>(s₃.heap.get? b).isNone)++I:=λb hb=>by
   rcases hI' b hb with q | q
   ·exact lR _ q
   ·exact cY _ (List.mem_filter.mpr ⟨hb,by simp [q]⟩)
  have sm:∀ X,∀ b∈I'++X,b∈I'.filter (λb=>(s₃.heap.get? b).isNone)++(I++X):=λX b hb=>by
   rcases aw hb with q | q
   ·rcases aw (hsub b q) with q | q
    ·exact cY _ q
    ·exact lR _ (cY _ q)
   ·exact lR _ (lR _ q)
  have x₇:bD W fc env κ ⟨I'++B.μ,I'++B.ν⟩ ω st₁ s₅:=x₆.less (sm _) (sm _) λb hb=>(aw hb).elim (λh=>cY _ h) λh=>lR _ (hν b h)
  have mv:bF (fz W s₃.heap (aq ⟨I++B.μ,I++B.ν⟩ κ ω)) (fz W s₅.heap (aq ⟨I'++B.μ,I'++B.ν⟩ κ ω)):=ax λb o n1 n2 e=>by
   have nI:b∉I:=λq=>n2 (by rw [e1'];exact cY _ q)
   refine ⟨λq=>?_,k.kp b o (λq=>(aw q).elim n1 nI) e⟩
   rw [e1'] at q n2
   rcases aw q with q | q
   ·rcases hI' b q with q | q
    ·exact nI q
    ·ctx_has q e
   ·exact n2 (lR _ q)
  have hΦ₅:=hΦ.trans mv
  have dv:Data W (fz W s₅.heap (aq ⟨I'++B.μ,I'++B.ν⟩ κ ω)) v y0:=by
   refine Data.sub (aG λb hb=>?_) (hd (aq ⟨I++B.μ,I++B.ν⟩ κ ω) hΦ x₁.ex λb hb=>by rw [e1'];exact cY _ hb)
   rw [e1'] at hb ⊢
   rcases aw hb with q | q
   ·exact cY _ q
   ·exact lR _ (lR _ q)
  have c₅:aB W s₅.heap (fz W s₅.heap (aq ⟨I'++B.μ,I'++B.ν⟩ κ ω)) D d₁:=c₁.move (λo e=>k.kp _ _ (λq=>(aw q).elim (by ctx_has hoD e;exact x₁.gi.notin hoD hdD) hDI) e) mv
  refine wpAny_bind (wpAny_mono (ht A env κ _ ω st₁ s₅ v y0 st₂ hA.hd x₇ dv h3) (λU s₆ w=>?_) λU U q=>q.elim)
  obtain ⟨x₈,g₆⟩:=w
  refine wpAny_bind (wpAny_mono (hi A env κ _ ω st₂ s₆ b hA x₈ h4) (λok s₇ w=>?_) λU U q=>q.elim)
  obtain ⟨rfl,g₇⟩:=w
  have x₉:=x₈.gr g₇
  have gall:bR W κ (D::ω) s₀ s₅:=g₁.grI k hI hJ
  have g57:bR W κ ω s₅ s₇:=g₆.trans (λb hb=> .inl hb) (bR.of_gr g₇)
  have hDκ:D∉W.T++(κ++ω):=x₇.apartI (lR _ hD) (x₁.gi.notin hoD hdD)
  have c₇:aB W s₇.heap (fz W s₇.heap (aq ⟨I'++B.μ,I'++B.ν⟩ κ ω)) D d₁:=c₅.move (λo e=>g57.kp _ _ hDκ e) (g57.fz (ω':=ω) λb hb=>lR _ hb)
  have hnot:∀ b∈I',b∉W.T++(κ++(D::ω)):=λb hb q=>by
   have h1:=x₇.apartI (cY _ hb) (gi₀.fresh (hfr b hb))
   simp only [List.mem_append,List.mem_cons] at q h1
   rcases q with q | q | q | q
   ·exact h1 (.inl q)
   ·exact h1 (.inr (.inl q))
   ·exact hfB b hb (q ▸ hν D hD)
   ·exact h1 (.inr (.inr q))
  have next:∀ (s₈:Shared) (st₃:List SV) (d₃:PV),bR W κ (D::ω) s₅ s₈->bD W fc env κ ⟨I'++B.μ,I'++B.ν⟩ ω st₃ s₈->aB W s₈.heap (fz W s₈.heap (aq ⟨I'++B.μ,I'++B.ν⟩ κ ω)) D d₃->cH ftg fif fel xs st₃ d₃=some out->
    ∃ m,m<(y0::xs).length+1/\te W n fc env κ B ω s₀ tgt Φ it D (λxs st d=>cH ftg fif fel xs st d=some out) m s₈:=by
   intro s₈ st₃ d₃ gg xx cc hh
   refine ⟨xs.length+1,by simp,xs,st₃,d₃,I',J',rfl,xx,cc,hit'.move (λb hb o e=>gg.kp b o (hnot b hb) e) (λj hj g e=>gg.gens j g e) gg.dom,hΦ₅.trans (gg.fz (ω':=ω) λb hb=>?_),hh,gall.trans (λb hb=> .inl hb) gg,hfr,hfB,hfJ⟩
   simp only [List.mem_append,List.mem_cons] at hb
   rw [e1']
   simp only [aq,List.mem_append]
   rcases hb with q | q | q
   ·exact .inr (.inr (.inl q))
   ·exact .inr (.inl (q ▸ hν D hD))
   ·exact .inr (.inr (.inr q))
  cases ok with
  | false=>
   exact wpAny_pure ⟨rfl,next s₇ st₂ d₁ (g57.more λb hb=> .tail _ hb) x₉ c₇ h⟩
  | true=>
   obtain ⟨pr,h5,h⟩:=ah h
   refine wpAny_bind (wpAny_mono (hem A env κ _ ω st₂ s₇ D d₁ pr hA x₉ (lR _ hD) hG c₇ h5) (λU s₈ w=>?_) λU U q=>q.elim)
   exact wpAny_pure ⟨rfl,next s₈ pr.1 pr.2 ((g57.more λb hb=> .tail _ hb).trans (λb hb=> .inl hb) w.2.2) w.1 w.2.1 h⟩
noncomputable def mr (fc:FC) (names:List (Str×NameKind)):List (Str×NameKind):=names.map λ(n,k)=>if (k== .free&&true&&fc.names.lookup n==some .cell) then (n,.cell) else (n,k)
noncomputable def H1 (names:List (Str×NameKind)):List Str:=(names.filter λp=>p.2== .cell).map (·.1)
noncomputable def mK (fc:FC) (scope:Scope):FC:=⟨mr fc scope.names,H1 scope.names,fc.lam,_,rfl⟩
noncomputable def sV (fc:FC) (st:List SV) (x:Str):SV:=((fc.names.findIdx? (·.1==x)).bind λi=>(cn st i).bind EP).getD .u
noncomputable def tX (fc:FC) (names:List (Str×NameKind)) (st:List SV):List SV:=names.map λ(x,k)=>if k== .free then sV fc st x else .u
noncomputable def mO (fc:FC) (scope:Scope):Bool:=
 scope.kind== .function&&decide ((scope.names.map (·.1)).Nodup)&&
 scope.names.all (λp=>p.2 != .free || (match fc.names.find? (·.1==p.1) with | some q=>q.2== .cell || q.2== .free | none=>false))
theorem aR.addωh (x:aR W fc env κ B ω st s m cm) (k:Gr W s s') {a} (as) (hf:s.heap.get? a=none) (he:∃ o,s'.heap.get? a=some o/\∀ vs,o.data≠ .fields vs) (hG:W.G.get? a=none) (ha:∀ b∈as,s.heap.get? b=none) (hax:iB s' as) (hna:a∉as):aR W fc env κ ⟨as++B.μ,as++B.ν⟩ (a::ω) st s' m cm:=by
 have nf:∀ b o,s.heap.get? b=some o->b≠a:=λb o e q=>by rw [q,hf] at e;w_cond e
 have nA:∀ b o,s.heap.get? b=some o->b∉as:=λb o e q=>by rw [ha b q] at e;w_cond e
 have y:=x.gr k
 exact { y with
  lω:=List.mem_cons_of_mem _ x.lω
  νμ:=λb hb=>(aw hb).elim (λh=>cY _ h) λh=>lR _ (x.νμ b h)
  cν:=λy c h q=>by
   rcases aw q with q | q
   ·obtain ⟨o,e,_⟩:=x.cells y c h
    exact nA c o e q
   ·exact x.cν y c h q
  cω:=λy c h q=>by
   rcases aX q with q | q
   ·obtain ⟨o,e,_⟩:=x.cells y c h
    exact nf c o e q
   ·exact x.cω y c h q
  vars:=λi sv h=>(x.vars i sv h).imp id λ⟨xk,v,a',b',c,d⟩=>⟨xk,v,a',b',c,by
   refine d.move ⟨ax λb o n1 n2 e=>⟨λq=>?_,k.kp b o n1 e⟩,ax λb o n1 n2 e=>⟨λq=>?_,k.kp b o n1 e⟩⟩ λd U a U o e hd=>k.kp _ _ (x.gi.notin e hd) e
   ·simp only [aq,List.mem_append,List.mem_cons] at q n2
    rcases q with (q | q) | q | q | q
    ·exact nA b o e q
    ·exact n2 (.inl q)
    ·exact n2 (.inr (.inl q))
    ·exact nf b o e q
    ·exact n2 (.inr (.inr q))
   ·simp only [bw,List.mem_append,List.mem_cons] at q n2
    rcases q with (q | q) | q | q
    ·exact nA b o e q
    ·exact n2 (.inl q)
    ·exact nf b o e q
    ·exact n2 (.inr q)⟩
  oω:=λi d xk a h1 h2 h3=>List.mem_cons_of_mem _ (x.oω i d xk a h1 h2 h3)
  dj:=λb hb q=>by
   rcases aX hb with rfl | hb
   ·rcases aw q with q | q
    ·exact hna q
    ·obtain ⟨o,e⟩:=x.ex b (cY _ q)
     exact nf b o e rfl
   ·rcases aw q with q | q
    ·obtain ⟨o,e⟩:=x.ex b (lR _ (lR _ hb))
     exact nA b o e q
    ·exact x.dj b hb q
  ex:=λb hb=>by
   simp only [aq,List.mem_append,List.mem_cons] at hb
   rcases hb with (hb | hb) | hb | rfl | hb
   ·exact hax.ex b hb
   ·exact y.ex b (by simp only [aq,List.mem_append];exact .inl hb)
   ·exact y.ex b (by simp only [aq,List.mem_append];exact .inr (.inl hb))
   ·exact let ⟨o,e,_⟩:=he;⟨o,e⟩
   ·exact y.ex b (by simp only [aq,List.mem_append];exact .inr (.inr hb))
  nc:=λb hb o e=>by
   simp only [bw,List.mem_append,List.mem_cons] at hb
   rcases hb with (hb | hb) | rfl | hb
   ·obtain ⟨o',e',hn⟩:=hax b hb
    rw [e] at e';w_cond e';exact hn
   ·exact y.nc b (by simp only [bw,List.mem_append];exact .inl hb) o e
   ·obtain ⟨o',e',hd⟩:=he
    rw [e] at e';w_cond e';exact .of hd
   ·exact y.nc b (by simp only [bw,List.mem_append];exact .inr hb) o e
  gn:=λb hb=>by
   simp only [List.mem_append,List.mem_cons] at hb
   rcases hb with hb | rfl | hb
   ·exact x.gn b (cY _ hb)
   ·exact hG
   ·exact x.gn b (lR _ hb) }
theorem mP {R A e dep it acc env g} (hg:(clausesOf e)[dep]? =some g) (ha:(g.is_async != 0)=false) (hden:W.M.den (.compStart e dep it acc env)=(compStart e dep it acc env).onRaise (λx=>do noteFrame x env;standAt theWindowsPlace)) (hund:A.under (.compStart e dep it acc env)=A) (hq:∀ it,(Code.compLoop e dep it acc env).quiet=true) (h0:codeAny W.M A (.compLoop e dep it acc env) R s) (h:wpAny W.M A (pyIter it) (λit' s'=>codeAny W.M A (.compLoop e dep it' acc env) R s') (notedBy W.M A env λx s'=>R (.error x) s') s):codeAny W.M A (.compStart e dep it acc env) R s:=by
 refine codeAny_of_tree ?_
 rw [hden,hund]
 refine wpAny_notedAt ?_
 unfold compStart
 erw [hg]
 simp only [Option.elim_some,ha,Bool.false_eq_true,if_false]
 refine wpAny_bind (wpAny_askSetting (wpAny_ite ?_))
 split
 ·first
   | exact wpAny_bind (wpAny_pure (wpAny_pure (And.intro (hq _) h0)))
   | exact wpAny_pure (And.intro (hq _) h0)
 ·first
   | exact wpAny_bind (wpAny_rule (wpAny_bind (wpAny_standAt (wpAny_bind (wpAny_mono h (λit' s' h'=>wpAny_pure (And.intro (hq _) h')) λU U x=>x)))))
   | (refine wpAny_bind (wpAny_rule ?_);exact wpAny_bind (wpAny_standAt (wpAny_bind (wpAny_mono h (λit' s' h'=>wpAny_pure (And.intro (hq _) h')) λU U x=>x))))
theorem BN {A E scope globals cl qual func code around builtins Q} (h:Q (newEnv scope s.heap.objs.size globals (cellsFrom (s.heap.objs.size+1) scope.names []++cl) qual func code around builtins) { s with heap:=ck s (if around.isSome then "dict" else "frame") scope.names }):
  wpAny W.M A (newFunctionEnv scope globals cl [] qual func code around builtins) Q E s:=by
 unfold newFunctionEnv
 refine wpAny_bind (wpAny_alloc ?_)
 refine wpAny_bind (wpAny_layCells _ (λname kind cells=>by cases hkc:kind==NameKind.cell <;> simp [hkc]) _ _ _ _ ?_)
 have e1:({ s with heap:=s.heap.push { cls:= .type (if around.isSome then "dict" else "frame"),data:= .dict #[] } }:Shared).heap.objs.size=s.heap.objs.size+1:=Heap.size_push ..
 erw [e1,cy]
 cases around with
 | none=>exact wpAny_bind (by rw [List.forIn_nil];exact wpAny_pure (wpAny_pure h))
 | some o=>exact wpAny_bind (by rw [List.forIn_nil];exact wpAny_pure (wpAny_pure h))
theorem iz {x sv} (h:sV fc st x=sv):sv= .u∨∃ (i:Nat) (k:NameKind),fc.names[i]? =some (x,k)/\st[i]? =some sv/\∀ d,sv≠ .own d:=by
 cases e:((fc.names.findIdx? (·.1==x)).bind λi=>(cn st i).bind EP) with
 | none=>exact .inl (by rw [<-h];unfold sV;rw [e];rfl)
 | some w=>
  obtain rfl:w=sv:=by rw [<-h];unfold sV;rw [e];rfl
  obtain ⟨i,hi,e⟩:=ah e
  obtain ⟨v,h3,e⟩:=ah e
  rw [bV] at h3
  obtain ⟨rfl,h2⟩:=uD e
  obtain ⟨hlt,h1,_⟩:=List.findIdx?_eq_some_iff_getElem.mp hi
  refine .inr ⟨i,(fc.names[i]).2,?_,h3,h2⟩
  rw [List.getElem?_eq_getElem hlt]
  have:fc.names[i].1=x:=by simpa using h1
  erw [<-this]
theorem vT (fc) (names):(mr fc names).map (·.1)=names.map (·.1):=by
 unfold mr
 rw [jJ]
 refine List.map_congr_left λp U=>?_
 simp only [Function.comp]
 split <;> rfl
theorem zO {names} {i:Nat} {x k} (h:names[i]? =some (x,k)):(mr fc names)[i]? =some (if (k== .free&&true&&fc.names.lookup x==some .cell) then (x,.cell) else (x,k)):=by
 unfold mr
 rw [gY,h];rfl
theorem zi {names x} (h:x∈H1 names):(x,NameKind.cell)∈names:=by
 obtain ⟨p,hp,rfl⟩:=iW h
 obtain ⟨h1,h2⟩:=List.mem_filter.mp hp
 obtain ⟨y,k⟩:=p
 have:k=NameKind.cell:=beq_iff_eq.mp h2
 erw [<-this];exact h1
theorem eD {scope:Scope} (h:mO fc scope=true) {x:Str} (hx:(x,NameKind.free)∈scope.names) (nd:(fc.names.map (·.1)).Nodup):∃ (i:Nat) (k:NameKind),fc.names[i]? =some (x,k)/\(k= .cell∨k= .free)/\∀ (i':Nat) (k':NameKind),fc.names[i']? =some (x,k')->k'=k:=by
 simp only [mO,Bool.and_eq_true,List.all_eq_true] at h
 have:=h.2 _ hx
 (try clear hx);cases e:fc.names.find? (·.1==x) with
 | none=>erw [e] at this;w_cond this
 | some q=>
  erw [e] at this
  obtain ⟨y,k⟩:=q
  haveI hm:=List.mem_of_find?_eq_some e
  haveI hy:y=x:=by have:=List.find?_some e;simpa using this
  subst hy
  obtain ⟨i,hi⟩:=List.getElem?_of_mem hm
  refine ⟨i,k,hi,by simpa using this,λi' k' h'=>?_⟩
  have:=nF nd hi h'
  subst this
  rw [hi] at h';w_cond h';rfl
theorem ii {e scope pos newAcc g gs use} {A:Around} {E Q fi f oA d0 xs out} (hcl:clausesOf e=g::gs) (ha:(g.is_async != 0)=false) (hfold:∀ x,foldedSetIterable g.iter env x=pure x) (hck:mO fc scope=true) (hnew:∀ (A:Around) (E:Value->Shared->Prop) (s:Shared) (Q:Value->Shared->Prop),Q (.ref s.heap.objs.size) { s with heap:=s.heap.push oA }->wpAny W.M A newAcc Q E s) (hoA:oA.isFreed=false) (hacc:∀ (h F:Heap) (a:Addr),a≠sysModules->h.get? a=some oA->aB W h F a d0) (hi:wh W n fc g.target g.iter fi) (hloop:KI W n (mK fc scope) e 0 g.target f) (hden:∀ it acc env,W.M.den (.compStart e 0 it acc env)=(compStart e 0 it acc env).onRaise (λx=>do noteFrame x env;standAt theWindowsPlace)) (hund:∀ it acc env,A.under (.compStart e 0 it acc env)=A) (hq:∀ it acc env,(Code.compLoop e 0 it acc env).quiet=true) (hA:cf n A) (x:bD W fc env κ B ω st s) (h1:fi st=some xs) (h2:f xs (tX fc scope.names st) d0=some out) (K:∀ (s₅:Shared) (C D:Addr) (mC:Str->Option Value),Gr W s s₅->s.heap.get? C=none->s.heap.get? D=none->C≠D->s₅.heap.Ns C mC->aB W s₅.heap (fz W s₅.heap (C::D::aq B κ ω)) D out.2->compPost W.M A E use Q (.ref D) C (.ok .next) s₅):
  wpAny W.M A (comprehension e scope env pos newAcc false (eval g.iter env) use) Q E s:=by
 obtain ⟨m,cm,xc⟩:=id x
 have hck':=hck
 simp only [mO,Bool.and_eq_true,beq_iff_eq,decide_eq_true_eq,List.all_eq_true] at hck'
 obtain ⟨⟨hk,hnd⟩,_⟩:=hck'
 have hfr:∀ y,(y,NameKind.free)∈scope.names->∃ c,env.cells.lookup y=some c:=λy hy=>by
  obtain ⟨i,k,h3,h4,_⟩:=eD hck hy xc.nd
  exact xc.has i y k h3 h4
 have hnames:∀ p∈scope.names,p.2=NameKind.local->scope.names.lookup p.1=some .local:=λp hp hl=>by
  obtain ⟨y,k⟩:=p
  simp only at hl;subst hl
  obtain ⟨c,hc⟩:=bh hp
  have:=mem_of_lookup hc
  obtain ⟨i,h3⟩:=List.getElem?_of_mem hp
  obtain ⟨j,h4⟩:=List.getElem?_of_mem this
  have:=nF hnd h3 h4
  subst this
  rw [h3] at h4;w_cond h4;exact hc
 refine wpAny_comprehension_free (g:=g) (gs:=gs) hcl hfold (iK scope env hfr) hk hnames ?_
 refine wpAny_mono (hi A env κ B ω st s xs hA x h1) (λv s₁ y=>wpAny_mono y (λit s₂ z=>?_) λU U q=>q.elim) λU U q=>q.elim
 obtain ⟨I,J,Φ,g2,hΦ,hI,hEx,hJ,hit,hself⟩:=z
 refine hnew _ _ _ _ ?_
 have hD:s₂.heap.get? s₂.heap.objs.size=none:=aK _
 have gp:Gr W s₂ { s₂ with heap:=s₂.heap.push oA }:=Gr.push oA
 have x₂:=x.gr g2
 have x₃:=x₂.gr gp
 have y₃:=(xc.gr g2).gr gp
 have hDs:s.heap.get? s₂.heap.objs.size=none:=g2.dom _ hD
 have gi₃:=x₃.gi
 generalize hs₃:({ s₂ with heap:=s₂.heap.push oA }:Shared)=s₃ at *
 have hD3:s₃.heap.get? s₂.heap.objs.size=some oA:=by erw [<-hs₃];exact Heap.get?_push_size _ hoA
 generalize hDd:s₂.heap.objs.size=D at *
 refine BN ?_
 have hC:s₃.heap.get? s₃.heap.objs.size=none:=aK _
 have g3:Gr W s s₃:=g2.trans gp
 have sub34:=d8 s₃ "dict" scope.names
 have g34:Gr W s₃ { s₃ with heap:=ck s₃ "dict" scope.names }:=Gr.of_sub sub34
 have g4:=g3.trans g34
 have exI3:Ex s₃ I:=λb hb=>by
  obtain ⟨o,e,_⟩:=hEx b hb
  exact ⟨o,by erw [<-hs₃];exact Heap.get?_push_of_some _ e⟩
 have DnI:D∉I:=λq=>by obtain ⟨o,e,_⟩:=hEx D q;rw [hD] at e;w_cond e
 have nI:∀ b∈I,b∉aq B κ ω:=λb hb q=>by obtain ⟨o,e⟩:=x.ex b q;rw [hI b hb] at e;w_cond e
 have exμ:Ex s₃ (I++(D::aq B κ ω)):=λb hb=>by
  rcases aw hb with q | q
  ·exact exI3 b q
  ·rcases aX q with q | q
   ·rw [q];exact ⟨oA,hD3⟩
   ·exact x₃.ex b q
 have hh:∀ b∈bw B ω,b∈aq B κ ω:=λb hb=>by
  simp only [bw,aq,List.mem_append] at hb ⊢
  exact hb.imp (xc.νμ b) λh=> .inr h
 have hν1:∀ b∈D::bw B ω,b∈D::aq B κ ω:=λb hb=>by
  rcases aX hb with q | q
  ·rw [q];exact .head _
  ·exact .tail _ (hh b q)
 have hνμ:∀ b∈I++(D::bw B ω),b∈I++(D::aq B κ ω):=λb hb=>(aw hb).elim (λh=>cY _ h) λh=>lR _ (hν1 b h)
 have mem_cl:∀ y c,(dM env.cells scope.names []).lookup y=some c->env.cells.lookup y=some c:=λy c h=>by
  rcases pR env.cells scope.names [] hfr _ (mem_of_lookup h) with q | q
  ·w_cond q
  ·exact q.1
 have cell_old:∀ y c,env.cells.lookup y=some c->∃ o,s.heap.get? c=some o:=λy c h=>let ⟨o,e,_⟩:=xc.cells y c h;⟨o,e⟩
 have A1:(relabel scope env).names=mr fc scope.names:=by
  refine List.map_congr_left λp U=>?_
  simp only [xc.eo.kind,bz xc.eo]
  rfl
 have A2:∀ y c,(dM env.cells scope.names []).lookup y=some c->s₃.heap.IsCell c (cm y)/\c∉I++(D::bw B ω):=by
  intro y c h
  have h':=mem_cl y c h
  refine ⟨y₃.cells y c h',λq=>?_⟩
  obtain ⟨o,e⟩:=cell_old y c h'
  rcases aw q with q | q
  ·rw [hI c q] at e;w_cond e
  ·rcases aX q with q | q
   ·rw [q,hDs] at e;w_cond e
   ·rcases aw q with q | q
    ·exact xc.cν y c h' q
    ·exact xc.cω y c h' q
 have A3:∀ (y:Str) (k:NameKind),(y,k)∈mr fc scope.names->(k= .cell∨k= .free)->(y,NameKind.cell)∈scope.names∨∃ c,(dM env.cells scope.names []).lookup y=some c:=by
  intro y k h hkk
  obtain ⟨⟨y0,k0⟩,h5,h6⟩:=iW h
  have h7:y0=y/\(k0= .cell∨k0= .free):=by
   by_cases hc:(k0==NameKind.free&&true&&fc.names.lookup y0==some NameKind.cell)=true
   ·simp only [hc,if_true] at h6
    w_cond h6
    simp only [Bool.and_eq_true,beq_iff_eq] at hc
    exact ⟨rfl,.inr hc.1.1⟩
   ·simp only [hc,Bool.false_eq_true,if_false] at h6
    w_cond h6
    exact ⟨rfl,hkk⟩
  obtain ⟨rfl,h6 | h6⟩:=h7
  ·subst h6;exact .inl h5
  ·subst h6
   obtain ⟨c,hc⟩:=gP env.cells scope.names [] y0 h5
   exact .inr (bh hc)
 have A4:∀ (i:Nat) (sv:SV),(tX fc scope.names st)[i]? =some sv->sv= .u∨∃ y k v c,(mr fc scope.names)[i]? =some (y,k)/\(k= .cell∨k= .free)/\(y,NameKind.cell)∉scope.names/\(dM env.cells scope.names []).lookup y=some c/\cm y=some v/\
   dm W s₃.heap (I++(D::aq B κ ω)) (I++(D::bw B ω)) v sv/\∀ d,sv≠ .own d:=by
  intro i sv h
  unfold tX at h
  rw [gY] at h
  obtain ⟨⟨y,k⟩,h5,h6⟩:=aA h
  by_cases hf:(k==NameKind.free)=true
  ·simp only [hf,if_true] at h6
   have hkf:k= .free:=beq_iff_eq.mp hf
   subst hkf
   rcases iz h6 with q | ⟨i',k',q1,q2,q3⟩
   ·exact .inl q
   ·obtain ⟨i2,k2,r1,r2,r3⟩:=eD hck (List.mem_of_getElem? h5) xc.nd
    have hk':k'=k2:=r3 i' k' q1
    rcases xc.vars i' sv q2 with q | ⟨xk,v,t1,t2,t3,t4⟩
    ·exact .inl q
    ·rw [q1] at t1;w_cond t1
     subst hk'
     have hcm:cm y=some v:=by rcases r2 with rfl | rfl <;> exact t3
     obtain ⟨c,hc⟩:=gP env.cells scope.names [] y (List.mem_of_getElem? h5)
     obtain ⟨c',hc'⟩:=bh hc
     have hrel:∃ kk,(mr fc scope.names)[i]? =some (y,kk)/\(kk= .cell∨kk= .free):=by
      have:=zO (fc:=fc) h5
      by_cases hc:(NameKind.free==NameKind.free&&true&&fc.names.lookup y==some NameKind.cell)=true
      ·rw [if_pos hc] at this;exact ⟨_,this,.inl rfl⟩
      ·rw [if_neg hc] at this;exact ⟨_,this,.inr rfl⟩
     obtain ⟨kk,w1,w2⟩:=hrel
     refine .inr ⟨y,kk,v,c',w1,w2,λq=>?_,hc',hcm,?_,q3⟩
     ·obtain ⟨j,hj⟩:=List.getElem?_of_mem q
      have:=nF hnd h5 hj
      subst this
      rw [h5] at hj;w_cond hj
     ·have fr:∀ b o,s.heap.get? b=some o->b∉I/\b≠D:=λb o e=>⟨λq=>(by rw [hI b q] at e;w_cond e),λq=>(by rw [q,hDs] at e;w_cond e)⟩
      refine t4.move ⟨ax λb o n1 n2 e=>⟨λq=>?_,g3.kp b o n1 e⟩,ax λb o n1 n2 e=>⟨λq=>?_,g3.kp b o n1 e⟩⟩ λd e=>absurd e (q3 d)
      all_goals
       rcases aw q with q | q
       ·exact (fr b o e).1 q
       ·rcases aX q with q | q
        ·exact (fr b o e).2 q
        ·exact n2 q
  ·simp only [hf,Bool.false_eq_true,if_false] at h6
   exact .inl h6.symm
 have A5:∀ b∈I++(D::bw B ω),∀ o,s₃.heap.get? b=some o->dq o:=by
  intro b hb o e
  rcases aw hb with q | q
  ·obtain ⟨o',e',hn⟩:=hEx b q
   have:s₃.heap.get? b=some o':=by erw [<-hs₃];exact Heap.get?_push_of_some _ e'
   rw [e] at this;w_cond this;exact hn
  ·rcases aX q with q | q
   ·erw [q,hD3] at e;w_cond e
    obtain ⟨o',e',hd'⟩:=(hacc s₃.heap s₃.heap D (by
     obtain ⟨o,e⟩:=x.gi.ok.sysm
     exact dZ hDs (x.gi.top _ _ e) |>.symm) hD3).ex
    rw [hD3] at e';w_cond e';exact .of hd'
   ·exact y₃.nc b q o e
 obtain ⟨κ',x₄,hκ'⟩:=k8 (fc:=mK fc scope) (env:={ newEnv scope s₃.heap.objs.size env.globals (cellsFrom (s₃.heap.objs.size+1) scope.names []++dM env.cells scope.names []) env.qual none .none (some env) builtinsNs with scope:=relabel scope env }) (μ:=I++(D::aq B κ ω)) (ν:=I++(D::bw B ω)) "dict" scope.names (dM env.cells scope.names []) cm s₃.toks (tX fc scope.names st) gi₃ exμ hνμ A5
  ⟨hk,A1,xc.eo.globals,xc.eo.builtins,xc.eo.lam⟩ rfl rfl A2 (λy z c h h'=>xc.inj y z c (mem_cl y c h) (mem_cl z c h')) (λy hy=>zi hy) A3
  (by show ((mr fc scope.names).map (·.1)).Nodup;erw [vT];exact hnd) hnd (by simp [tX,mK,mr]) A4
 have hB:∀ b∈(aN.mk (D::aq B κ ω) (D::bw B ω)).ν,b∈(aN.mk (D::aq B κ ω) (D::bw B ω)).μ:=hν1
 have hDsys:D≠sysModules:=by
  obtain ⟨o,e⟩:=x.gi.ok.sysm
  exact dZ hDs (x.gi.top _ _ e) |>.symm
 have exI4:∀ b∈I,∀ o,s₂.heap.get? b=some o->(ck s₃ "dict" scope.names).get? b=some o:=λb hb o e=>sub34 _ _ (by rw [<-hs₃];exact Heap.get?_push_of_some _ e)
 have sub24:bF s₂.heap (ck s₃ "dict" scope.names):=λb o e=>sub34 _ _ (by rw [<-hs₃];exact Heap.get?_push_of_some _ e)
 have e1:aq ⟨I++(D::aq B κ ω),I++(D::bw B ω)⟩ κ' [s₃.heap.objs.size]=I++aq ⟨D::aq B κ ω,D::bw B ω⟩ κ' [s₃.heap.objs.size]:=kr ..
 have hΦ4:bF Φ (fz W (ck s₃ "dict" scope.names) (aq ⟨I++(D::aq B κ ω),I++(D::bw B ω)⟩ κ' [s₃.heap.objs.size])):=by
  refine hΦ.trans (ax λb o n1 n2 e=>⟨λq=>?_,sub24 b o e⟩)
  have e3:s₃.heap.get? b=some o:=by erw [<-hs₃];exact Heap.get?_push_of_some _ e
  rw [e1] at q
  rcases aw q with q | q
  ·exact n2 (cY _ q)
  ·rcases aw q with q | q
   ·rcases aX q with q | q
    ·rw [q,hD] at e;w_cond e
    ·exact n2 (lR _ q)
   ·rcases aw q with q | q
    ·rw [hκ' b q] at e3;w_cond e3
    ·rw [aE q,hC] at e3;w_cond e3
 have c4:aB W (ck s₃ "dict" scope.names) (fz W (ck s₃ "dict" scope.names) (aq ⟨I++(D::aq B κ ω),I++(D::bw B ω)⟩ κ' [s₃.heap.objs.size])) D d0:=hacc _ _ _ hDsys (sub34 _ _ hD3)
 have L:=λ(it':Value) (hit':cV W n g.target Φ it' xs I J { s₃ with heap:=ck s₃ "dict" scope.names })=>hloop A _ κ' ⟨D::aq B κ ω,D::bw B ω⟩ [s₃.heap.objs.size] (tX fc scope.names st) s _ D d0 xs I J Φ it' out hA hB x₄ (.head _) (b6 x.gi hDs) c4 hΦ4 x.gi (bR.of_gr g4) hI
  (λb hb q=>by
   rcases aX q with q | q
   ·exact DnI (q ▸ hb)
   ·exact nI b hb q) hJ hit' h2
 have hit4:cV W n g.target Φ it xs I J { s₃ with heap:=ck s₃ "dict" scope.names }:=hit.move (λb hb o e=>exI4 b hb o e) (λj hj g e=>by erw [<-hs₃];exact e) (λb e=>by
  cases q:s₂.heap.get? b with
  | none=>rfl
  | some o=>have:=sub24 b o q;rw [e] at this;w_cond this)
 have hCs:s.heap.get? s₃.heap.objs.size=none:=g3.dom _ hC
 have fin:∀ (r:Result) (s₅:Shared),(r= .ok .next/\bD W (mK fc scope) { newEnv scope s₃.heap.objs.size env.globals (cellsFrom (s₃.heap.objs.size+1) scope.names []++dM env.cells scope.names []) env.qual none .none (some env) builtinsNs with scope:=relabel scope env } κ' ⟨D::aq B κ ω,D::bw B ω⟩ [s₃.heap.objs.size] out.1 s₅/\
   aB W s₅.heap (fz W s₅.heap (aq ⟨D::aq B κ ω,D::bw B ω⟩ κ' [s₃.heap.objs.size])) D out.2/\bR W κ' (D::[s₃.heap.objs.size]) s s₅)->compPost W.M A E use Q (.ref D) s₃.heap.objs.size r s₅:=by
  rintro r s₅ ⟨rfl,⟨m5,cm5,x5⟩,c5,g5⟩
  have frs:∀ b∈κ'++(D::[s₃.heap.objs.size]),s.heap.get? b=none:=λb hb=>by
   rcases aw hb with q | q
   ·exact g3.dom b (hκ' b q)
   ·rcases aX q with q | q
    ·rw [q];exact hDs
    ·rw [aE q];exact hCs
  refine K s₅ _ D m5 ⟨λb o n e=>g5.kp b o (λq=>(aw q).elim n λq=>by rw [frs b q] at e;w_cond e) e,λU=>x5.gi,g5.gens,g5.os,g5.dom⟩ hCs hDs (λq=>by erw [<-q,hC] at hD3;w_cond hD3) x5.ns (c5.move (λU e=>e) (aG λb hb=>?_))
  rcases aX hb with q | q
  ·rw [q];exact lR _ (lR _ (.head _))
  ·exact cY _ q
 refine mP (by erw [hcl];rfl) ha (hden _ _ _) (hund _ _ _) (λit=>hq it _ _) (codeAny_mono (L it hit4) fin) (hself A _ _ _ hA.hd (hΦ4.trans (av _ _ _)) (λb hb o e=>exI4 b hb o e) (codeAny_mono (L it hit4) fin))
noncomputable def lf (f:List SV->Option SV) (st:List SV) (a:PV):Option (List SV×PV):=(de f st).bind λy=>match a with | .list ys=>(b9 (ys++[y])).map (st,·) | _=>none
noncomputable def FV (fk fv:List SV->Option SV) (st:List SV) (a:PV):Option (List SV×PV):=(de fk st).bind λk=>(de fv st).bind λv=>match a with | .list _=>none | _=>(iZ a k v).map (st,·)
noncomputable def pY (fc:FC) (scope:Scope) (fi:List SV->Option (List PV)) (f:List PV->List SV->PV->Option (List SV×PV)) (st:List SV):Option PV:=(fi st).bind λxs=>(f xs (tX fc scope.names st) (.list [])).map (·.2)
noncomputable def pV (fc:FC) (scope:Scope) (fi:List SV->Option (List PV)) (f:List PV->List SV->PV->Option (List SV×PV)) (st:List SV):Option PV:=(fi st).bind λxs=>(f xs (tX fc scope.names st) (.dS [] [])).map (·.2)
theorem nY (elt tgt iter) (ifs) (scope) (pos):DX (.ListComp elt [⟨tgt,iter,ifs,0⟩] scope pos) 0 tgt ifs iter.pos (λacc env=>do let _<-call (.builtin "list.append") [acc,<-eval elt env]):=λit acc env=>compTurn_list elt tgt iter ifs scope pos it acc env
theorem nX (kx vx tgt iter:Expr) (ifs:List Expr) (scope:Scope) (pos:Pos):DX (.DictComp kx vx [⟨tgt,iter,ifs,0⟩] scope pos) 0 tgt ifs iter.pos (λacc env=>do
    let kv<-eval kx env
    let vv<-holding [kv] (eval vx env)
    match acc with
    | .ref d=>do
     standAt { kx.pos with endLine:=vx.pos.endLine,endCol:=vx.pos.endCol }
     holding [kv,vv] (dictSet d kv vv)
    | _=>unsupported "internal:dictcomp"):=λit acc env=>by unfold compTurn;rfl
theorem mJ {A E Q} (h:Q (.ref s.heap.objs.size) { s with heap:=s.heap.push { cls:= .type "dict",data:= .dict #[] } }):wpAny W.M A newDict Q E s:=wpAny_bind (wpAny_alloc (wpAny_pure h))
theorem lH {h F a} (e:h.get? a=some { cls:= .type "list",data:= .seq #[] }):aB W h F a (.list []):= .list (vs:=[]) e (Nat.zero_le _) .nil
theorem lG {h F a} (hs:a≠sysModules) (e:h.get? a=some { cls:= .type "dict",data:= .dict #[] }):aB W h F a (.dS [] []):=
 .dS (kvs:=[]) (ep:=0) ⟨_,#[],e,⟨rfl,rfl,rfl⟩,rfl,λe he=>by simp at he,.nil,List.nodup_nil⟩ (Nat.zero_le _) rfl .nil (λk hk=>by w_cond hk) hs
theorem pZ {C D mC d s₅} (x:bD W fc env κ B ω st s) (g:Gr W s s₅) (hC:s.heap.get? C=none) (hD:s.heap.get? D=none) (hne:C≠D) (hn:s₅.heap.Ns C mC) (c:aB W s₅.heap (fz W s₅.heap (C::D::aq B κ ω)) D d) {h'} (hs:Heap.SameBut C s₅.heap h'):(∃ a,Value.ref D= .ref a/\s.heap.get? a=none/\aB W h' (fz W h' (a::aq B κ ω)) a d)/\Gr W s { s₅ with heap:=h' }:=by
 have gi₅:=g.gi x.gi
 obtain ⟨o,ho,hd⟩:=aI hn
 refine ⟨⟨D,rfl,hD,c.move (λo e=>(hs.2 D hne.symm).trans e) ((gU hs (.head _)).trans (aG λb hb=> .tail _ hb))⟩,λb o n e=>?_,λU=>gi₅.upd ho hd (b6 x.gi hC) hs,g.gens,g.os,λb e=>?_⟩
 ·exact (hs.2 b λq=>by erw [q,hC] at e;w_cond e).trans (g.kp b o n e)
 ·by_cases q:b=C
  ·erw [q];exact hC
  ·exact g.dom b ((hs.2 b q).symm.trans e)
theorem a0 {elt tgt iter ifs scope pos fi ftg fif fe} (hck:mO fc scope=true) (hi:wh W n fc tgt iter fi) (ht:tm W (mK fc scope) tgt ftg) (hf:rF W n (mK fc scope) ifs fif) (he:SE W n (mK fc scope) elt fe) (hfold:∀ env x,foldedSetIterable iter env x=pure x:=by w_left):
  SF W n fc (.ListComp elt [⟨tgt,iter,ifs,0⟩] scope pos) (pY fc scope fi (cH ftg fif (lf fe))):=by
 intro A env κ B ω st s d hA x h
 obtain ⟨xs,h1,h2⟩:=ah h
 obtain ⟨out,h3,rfl⟩:=(aA h2:_)
 rw [eval_ListComp]
 refine ii (use:=none) (g:=⟨tgt,iter,ifs,0⟩) (gs:=[]) rfl rfl (hfold env) hck (λA E s Q q=>wpAny_newList q (Nat.zero_le _)) rfl (λh F a U e=>lH e) hi (ij (nY elt tgt iter ifs scope pos) (λU U U=>rfl) (λU U U U=>rfl) (λU U U=>rfl) ht hf (wB he)) (λU U U=>rfl) (λU U U=>rfl) (λU U U=>rfl) hA x h1 h3 ?_
 intro s₅ C D mC g hC hD hne hn c
 exact ⟨mC,hn,λh' hs=>pZ x g hC hD hne hn c hs⟩
theorem pB {kx vx tgt iter ifs scope pos fi ftg fif fk fv} (hck:mO fc scope=true) (hi:wh W n fc tgt iter fi) (ht:tm W (mK fc scope) tgt ftg) (hf:rF W n (mK fc scope) ifs fif) (hk:SE W n (mK fc scope) kx fk) (hv:SE W n (mK fc scope) vx fv) (hfold:∀ env x,foldedSetIterable iter env x=pure x:=by w_left):
  SF W n fc (.DictComp kx vx [⟨tgt,iter,ifs,0⟩] scope pos) (pV fc scope fi (cH ftg fif (FV fk fv))):=by
 intro A env κ B ω st s d hA x h
 obtain ⟨xs,h1,h2⟩:=ah h
 obtain ⟨out,h3,rfl⟩:=(aA h2:_)
 rw [arm_eval_DictComp]
 refine ii (use:=none) (g:=⟨tgt,iter,ifs,0⟩) (gs:=[]) rfl rfl (hfold env) hck (λA E s Q q=>mJ q) rfl (λh F a hs e=>lG hs e) hi (ij (nX kx vx tgt iter ifs scope pos) (λU U U=>rfl) (λU U U U=>rfl) (λU U U=>rfl) ht hf (wA hk hv)) (λU U U=>rfl) (λU U U=>rfl) (λU U U=>rfl) hA x h1 h3 ?_
 intro s₅ C D mC g hC hD hne hn c
 exact ⟨mC,hn,λh' hs=>pZ x g hC hD hne hn c hs⟩
theorem vd {A y p i C D mC d s₅} (hw:eV fc y i=true) (x:bD W fc env κ B ω st s) (g:Gr W s s₅) (hC:s.heap.get? C=none) (hD:s.heap.get? D=none) (hne:C≠D) (hn:s₅.heap.Ns C mC) (c:aB W s₅.heap (fz W s₅.heap (C::D::aq B κ ω)) D d):
  compPost W.M A (λU U=>False) (some (assign (.Name y p) env)) (λU s'=>bf W fc env κ B ω s (cF fc st i (.own d),.next) .next s') (.ref D) C (.ok .next) s₅:=by
 obtain ⟨m,cm,x⟩:=x
 obtain ⟨oD,hoD,hdD⟩:=c.ex
 obtain ⟨oC,hoC,hdC⟩:=aI hn
 have hν:=x.νμ
 have x₁:=x.addωh g [C] hD ⟨oD,hoD,hdD⟩ (b6 x.gi hD) (λb hb=>by erw [aE hb];exact hC) (λb hb=>by erw [aE hb];exact ⟨oC,hoC,.of hdC⟩) (by simpa using hne.symm)
 have e1:aq ⟨[C]++B.μ,[C]++B.ν⟩ κ (D::ω)=[C]++(B.μ++(κ++(D::ω))):=kr ..
 refine wpAny_assign_Name (wpAny_mono (cu (sv:= .own d) hw x₁ ⟨D,rfl,c.move (λU e=>e) (aG λb hb=>?_)⟩ (λf e=>by w_cond e) λd' a' q1 q2=>?_) (λU s₆ w=>?_) λU U q=>q)
 ·rw [e1] at hb
  simp only [aq,List.mem_append,List.mem_cons] at hb ⊢
  rcases hb with (hb | hb) | hb | hb | hb | hb
  ·exact .inl hb
  ·w_cond hb
  ·exact .inr (.inr (.inl hb))
  ·exact .inr (.inr (.inr (.inl hb)))
  ·exact .inr (.inl hb)
  ·exact .inr (.inr (.inr (.inr hb)))
 ·w_cond q2
  refine ⟨.head _,λq=>?_,λj d'' xk h1 h2 h3=>?_⟩
  ·obtain ⟨o,e,_⟩:=aI x.ns
   erw [<-q,hD] at e;w_cond e
  ·have:=x.oω j d'' xk D h1 h2 h3
   obtain ⟨o,e⟩:=x.ex D (lR _ (lR _ this))
   rw [hD] at e;w_cond e
 ·obtain ⟨x₆,g₆⟩:=w
  have hCn:C∉W.T++(κ++(D::ω)):=λq=>by
   simp only [List.mem_append,List.mem_cons] at q
   rcases q with q | q | q | q
   ·exact (g.gi x.gi).notin hoC hdC q
   ·obtain ⟨o,e⟩:=x.ex C (lR _ (cY _ q))
    rw [hC] at e;w_cond e
   ·exact hne q
   ·obtain ⟨o,e⟩:=x.ex C (lR _ (lR _ q))
    rw [hC] at e;w_cond e
  refine ⟨mC,hn.at' λo e=>g₆.kp C o hCn e,λh' hs=>?_⟩
  have hoC6:=g₆.kp C oC hCn hoC
  have k:eX W [C] [] s₆ { s₆ with heap:=h' }:=⟨λb o nb e=>(hs.2 b λq=>nb (by erw [q];simp)).trans e,λgi=>gi.upd hoC6 hdC (b6 x.gi hC) hs,λU U U e=>e,rfl,λb nb e=>(hs.2 b λq=>nb (by rw [q];exact .head _)).symm.trans e⟩
  have x₇:=x₆.grI0 k hν (λb hb q=>by
   erw [aE hb] at q
   obtain ⟨o,e⟩:=x.ex C (cY _ q)
   rw [hC] at e;w_cond e)
  have hω:∀ b∈D::ω,b∈ω∨s.heap.get? b=none:=λb hb=>by
   rcases aX hb with rfl | hb
   ·exact .inr hD
   ·exact .inl hb
  have gg:bR W κ ω s { s₆ with heap:=h' }:=((bR.of_gr g).trans hω g₆).grI k (λb hb=>by erw [aE hb];exact hC) (by intro j hj;w_cond hj)
  exact bf.of_inv rfl gg x₇ hω
theorem ie {y} {p spos:Pos} {elt tgt iter ifs scope pos fi ftg fif fe} (i) (hw:eV fc y i=true) (hsw:∀ env,cx fc env->swapsWith (.ListComp elt [⟨tgt,iter,ifs,0⟩] scope pos) (some (.Name y p)) spos.line env=pure true) (hck:mO fc scope=true) (hi:wh W n fc tgt iter fi) (ht:tm W (mK fc scope) tgt ftg) (hf:rF W n (mK fc scope) ifs fif) (he:SE W n (mK fc scope) elt fe) (hfold:∀ env x,foldedSetIterable iter env x=pure x:=by w_left):
  SX W n fc (.Assign [.Name y p] (.ListComp elt [⟨tgt,iter,ifs,0⟩] scope pos) spos) (BV fc i (pY fc scope fi (cH ftg fif (lf fe)))):=by
 intro A env κ B ω st s out hA x h
 obtain ⟨d,h0,rfl⟩:=aA h
 obtain ⟨xs,h1,h2⟩:=(ah h0:_)
 obtain ⟨out,h3,rfl⟩:=(aA h2:_)
 erw [exec_Assign_Name_used _ _ _ _ (hsw env (let ⟨_,_,q⟩:=x;q.eo))]
 refine wpAny_bind (wpAny_standAt (wpAny_bind ?_))
 show wpAny _ A (do let _<-comprehension (.ListComp elt [⟨tgt,iter,ifs,0⟩] scope pos) scope env _ (newList []) false (eval iter env) (some (assign (.Name y p) env))) _ _ s
 refine wpAny_bind (wpAny_mono (ii (use:=some (assign (.Name y p) env)) (Q:=λU s'=>bf W fc env κ B ω s (cF fc st i (.own out.2),.next) .next s') (E:=λU U=>False) (g:=⟨tgt,iter,ifs,0⟩) (gs:=[]) rfl rfl (hfold env) hck (λA E s Q q=>wpAny_newList q (Nat.zero_le _)) rfl (λh F a U e=>lH e) hi
  (ij (nY elt tgt iter ifs scope pos) (λU U U=>rfl) (λU U U U=>rfl) (λU U U=>rfl) ht hf (wB he)) (λU U U=>rfl) (λU U U=>rfl) (λU U U=>rfl) hA x h1 h3 ?_) (λU s' q=>wpAny_pure (wpAny_pure q)) λU U q=>q)
 intro s₅ C D mC g hC hD hne hn c
 exact vd hw x g hC hD hne hn c
theorem n9 {y} {p spos:Pos} {kx vx tgt iter ifs scope pos fi ftg fif fk fv} (i) (hw:eV fc y i=true) (hsw:∀ env,cx fc env->swapsWith (.DictComp kx vx [⟨tgt,iter,ifs,0⟩] scope pos) (some (.Name y p)) spos.line env=pure true) (hck:mO fc scope=true) (hi:wh W n fc tgt iter fi) (ht:tm W (mK fc scope) tgt ftg) (hf:rF W n (mK fc scope) ifs fif) (hk:SE W n (mK fc scope) kx fk) (hv:SE W n (mK fc scope) vx fv) (hfold:∀ env x,foldedSetIterable iter env x=pure x:=by w_left):
  SX W n fc (.Assign [.Name y p] (.DictComp kx vx [⟨tgt,iter,ifs,0⟩] scope pos) spos) (BV fc i (pV fc scope fi (cH ftg fif (FV fk fv)))):=by
 intro A env κ B ω st s out hA x h
 obtain ⟨d,h0,rfl⟩:=aA h
 obtain ⟨xs,h1,h2⟩:=(ah h0:_)
 obtain ⟨out,h3,rfl⟩:=(aA h2:_)
 erw [exec_Assign_Name_used _ _ _ _ (hsw env (let ⟨_,_,q⟩:=x;q.eo))]
 refine wpAny_bind (wpAny_standAt (wpAny_bind ?_))
 show wpAny _ A (do let _<-comprehension (.DictComp kx vx [⟨tgt,iter,ifs,0⟩] scope pos) scope env _ newDict false (eval iter env) (some (assign (.Name y p) env))) _ _ s
 refine wpAny_bind (wpAny_mono (ii (use:=some (assign (.Name y p) env)) (Q:=λU s'=>bf W fc env κ B ω s (cF fc st i (.own out.2),.next) .next s') (E:=λU U=>False) (g:=⟨tgt,iter,ifs,0⟩) (gs:=[]) rfl rfl (hfold env) hck (λA E s Q q=>mJ q) rfl (λh F a hs e=>lG hs e) hi
  (ij (nX kx vx tgt iter ifs scope pos) (λU U U=>rfl) (λU U U U=>rfl) (λU U U=>rfl) ht hf (wA hk hv)) (λU U U=>rfl) (λU U U=>rfl) (λU U U=>rfl) hA x h1 h3 ?_) (λU s' q=>wpAny_pure (wpAny_pure q)) λU U q=>q)
 intro s₅ C D mC g hC hD hne hn c
 exact vd hw x g hC hD hne hn c
inductive aS (W:Wd) (h:Heap) (μ ν:List Addr):List Value->List SV->Prop
 | nil:aS W h μ ν [] []
 | cons {v:Value} {sv:SV} {vs:List Value} {svs:List SV}:dm W h μ ν v sv->aS W h μ ν vs svs->aS W h μ ν (v::vs) (sv::svs)
structure jL (W:Wd) (a:Addr) (fd:FuncData) (body:List Stmt):Prop where
 obj:∃ o,W.G.get? a=some o/\o.data= .func fd
 code:W.G.CodeRec fd.code fd.qualname
 body:fd.body= .stmts body
 co:fd.scope.isCoroutine=false
 gen:fd.scope.isGenerator=false
 kind:fd.scope.kind= .function
 glob:fd.globals=mainGlobals
 blt:fd.builtins=builtinsNs
 clo:fd.closure=[]
noncomputable def aY (fc:FC):List Nat->List SV->List SV->Option (List SV)
 | [],[],st=>some st
 | i::is,sv::svs,st=>if v6 fc i sv then aY fc is svs (cF fc st i sv) else none
 | _,_,_=>none
theorem ik {fc st}:aY fc [] [] st=some st:=rfl
theorem im {fc i is sv svs st}:aY fc (i::is) (sv::svs) st=if v6 fc i sv then aY fc is svs (cF fc st i sv) else none:=rfl
theorem io {fc i is st}:aY fc (i::is) [] st=none:=rfl
theorem ip {fc sv svs st}:aY fc [] (sv::svs) st=none:=rfl
noncomputable def b5 (fc:FC):List Str->List Nat->Bool
 | [],[]=>true
 | y::ys,i::is=>eV fc y i&&b5 fc ys is
 | _,_=>false
theorem rp {fc}:b5 fc [] []=true:=rfl
theorem rq {fc y ys i is}:b5 fc (y::ys) (i::is)=(eV fc y i&&b5 fc ys is):=rfl
theorem rr {fc y ys}:b5 fc (y::ys) []=false:=rfl
theorem ru {fc i is}:b5 fc [] (i::is)=false:=rfl
noncomputable def bc (fc:FC):List SV:=fc.names.map λU=> .u
noncomputable def jX:Option (List SV×Fl)->Option SV
 | some (_,.ret sv)=>some sv
 | some (_,.next)=>some (.d .none)
 | _=>none
noncomputable def bC (fc:FC) (ix:List Nat) (fb:List SV->Option (List SV×Fl)) (svs:List SV):Option SV:=(aY fc ix svs (bc fc)).bind λst=>jX (fb st)
set_option tactic.hygienic true in
theorem gC {A:Around} {s₀:Shared} (g₀:GI W s₀):∀ (names:List Str) (ix:List Nat) (vs:List Value) (svs:List SV) (st st':List SV) (s:Shared),b5 fc names ix=true->vs.length=names.length->bD W fc env κ B ω st s->aS W s₀.heap B.μ B.ν vs svs->Kp W.T s₀.heap s.heap->(∀ b∈κ++ω,s₀.heap.get? b=none)->aY fc ix svs st=some st'->
  ∀ (u:PUnit),wpAny W.M A (forIn (names.zip vs) u λ(x:Str×Value) (_:PUnit)=>match x with | (name,v)=>do storeName env name v;pure (ForInStep.yield PUnit.unit)) (PI W fc env κ B ω st' s) (λU U=>False) s:=by
 intro zv
 induction zv with
 | nil=>
  intro ix vs svs st st' s hw hl x hv hk hf he u
  cases ix with
  | cons i is=>w_cond hw
  | nil=>
   cases hv with
   | cons a b=>w_cond he
   | nil=>
    w_cond he
    exact wpAny_pure ⟨x,bR.refl _ _ _ _⟩
 | cons y ys ih=>
  intro ix vs svs st st' s hw hl x hv hk hf he u
  cases ix with
  | nil=>w_cond hw
  | cons i is=>
   simp only [rp,rq,rr,ru,Bool.and_eq_true] at hw
   cases hv with
   | nil=>w_cond he
   | @cons v sv vs svs a b=>
    simp only [ik,im,io,ip] at he
    split at he
    ·rename_i hb
     rw [List.zip_cons_cons,List.forIn_cons]
     obtain ⟨m,cm,xc⟩:=x
     have ho:∀ d,sv≠ .own d:=u5 hb
     have va:dm W s.heap (aq B κ ω) (bw B ω) v sv:=by
      refine a.move ⟨ax λb o n1 n2 e=>⟨λq=>?_,hk b o n1 e⟩,ax λb o n1 n2 e=>⟨λq=>?_,hk b o n1 e⟩⟩ λd e=>absurd e (ho d)
      ·rcases aw q with q | q
       ·exact n2 q
       ·rw [hf b q] at e;w_cond e
      ·rcases aw q with q | q
       ·exact n2 q
       ·rw [hf b (lR _ q)] at e;w_cond e
     refine wpAny_bind (wpAny_bind (wpAny_mono (cu hw.1 xc va (z0 hb) λd a e=>absurd e (ho d)) (λU s₁ w=>wpAny_pure ?_) λU U q=>q))
     have k1:Kp W.T s₀.heap s₁.heap:=λb o n e=>w.2.kp b o (λq=>(aw q).elim n λq=>by rw [hf b q] at e;w_cond e) (hk b o n e)
     exact wpAny_mono (ih is vs svs _ st' s₁ hw.2 (by simpa using hl) w.1 b k1 hf he _) (λU s₂ z=>⟨z.1,w.2.trans (λb hb=> .inl hb) z.2⟩) λU U q=>q
    ·w_cond he
theorem ma {A:Around} {E:Value->Shared->Prop} {scope:Scope} {globals:Addr} {cl:List (Str×Addr)} {binds:List (Str×Value)} {qual:Str} {func:Option Addr} {code:Value} {builtins:Addr} {Q:Env->Shared->Prop}
  (h:wpAny W.M A (forIn binds PUnit.unit λ(x:Str×Value) (_:PUnit)=>match x with | (name,v)=>do storeName (newEnv scope s.heap.objs.size globals (cellsFrom (s.heap.objs.size+1) scope.names []++cl) qual func code none builtins) name v;pure (ForInStep.yield PUnit.unit))
   (λU s'=>Q (newEnv scope s.heap.objs.size globals (cellsFrom (s.heap.objs.size+1) scope.names []++cl) qual func code none builtins) s') E { s with heap:=ck s "frame" scope.names }):
  wpAny W.M A (newFunctionEnv scope globals cl binds qual func code none builtins) Q E s:=by
 unfold newFunctionEnv
 refine wpAny_bind (wpAny_alloc ?_)
 refine wpAny_bind (wpAny_layCells _ (λname kind cells=>by cases hkc:kind==NameKind.cell <;> simp [hkc]) _ _ _ _ ?_)
 have e1:({ s with heap:=s.heap.push { cls:= .type (if (none:Option Env).isSome then "dict" else "frame"),data:= .dict #[] } }:Shared).heap.objs.size=s.heap.objs.size+1:=Heap.size_push ..
 rw [e1,cy]
 exact wpAny_bind (wpAny_mono h (λU s' q=>wpAny_pure q) λU U q=>q)
noncomputable def iT (fc:FC):Bool:=decide ((fc.names.map (·.1)).Nodup)&&fc.names.all (λp=>p.2 != .free)&&fc.wn.all (λx=>fc.names.any λp=>p.1==x&&p.2== .cell)
theorem jQ {a fd body names ix} (F:jL W a fd body) (hfc:fd.scope.names=fc.names) (hck:iT fc=true) (hix:b5 fc names ix=true) (hlam:∀ t,fc.lam=some t->fd.code= .ref t.1/\fd.qualname++Str.ofString ".<locals>."++Str.ofString "<lambda>"=t.2.2) {A s μ ν args vs svs st k} {R:Result->Shared->Prop} (hbind:∀ (A:Around) (E:Value->Shared->Prop) (Q:List (Str×Value)->Shared->Prop),Q (names.zip vs) s->wpAny W.M A (bindArgs fd args) Q E s) (hlen:vs.length=names.length) (hA:cf (k+1) A) (g:GI W s) (ex:Ex s μ) (hν:∀ b∈ν,b∈μ) (hnr:∀ b∈ν,∀ o,s.heap.get? b=some o->dq o) (hv:aS W s.heap μ ν vs svs) (h1:aY fc ix svs (bc fc)=some st)
  (cont:∀ (env:Env) (κ':List Addr) (s₁:Shared),env.frame=some env.locals->(∀ b∈κ'++[env.locals],s.heap.get? b=none)->bD W fc env κ' ⟨μ,ν⟩ [env.locals] st s₁->bR W κ' [env.locals] s s₁->cf k (A.deeper env)->
   wpAny W.M (A.deeper env) (execs body env) (λf s'=>R (.ok (.ret (match f with | .ret v=>v | _=> .none))) s') (λe s'=>wpAny W.M (A.deeper env) (leaving env e) (λU s''=>R (.error e) s'') (λe' s''=>R (.error e') s'') s') s₁):
  codeAny W.M A (.call (.ref a) args) R s:=by
 obtain ⟨o,ho,hd⟩:=F.obj
 simp only [iT,Bool.and_eq_true,decide_eq_true_eq,List.all_eq_true] at hck
 obtain ⟨⟨nd,hnf⟩,hwn⟩:=hck
 refine codeAny_call_function hA.room (g.top _ _ ho) hd F.co F.gen F.body (F.code.keeps g.top) (hbind _ _ _ ?_)
 erw [F.clo]
 have hL:s.heap.get? s.heap.objs.size=none:=aK _
 obtain ⟨κ',x,hκ'⟩:=k8 (fc:=fc) (env:=newEnv fd.scope s.heap.objs.size fd.globals (cellsFrom (s.heap.objs.size+1) fd.scope.names []++[]) (fd.qualname++".<locals>.") (some a) fd.code none fd.builtins) (μ:=μ) (ν:=ν) (s:=s) "frame" fd.scope.names [] (λU=>none) s.toks (bc fc) g ex hν hnr
  ⟨F.kind,hfc,F.glob,F.blt,hlam⟩ rfl rfl (λx c h=>by w_cond h) (λx y c h=>by w_cond h)
  (λx hx=>by
   have:=hwn x hx
   rw [List.any_eq_true] at this
   obtain ⟨p,hp,q⟩:=this
   simp only [Bool.and_eq_true,beq_iff_eq] at q
   erw [hfc,<-q.1,<-q.2];exact hp)
  (λx kk hx hkk=>by
   rcases hkk with rfl | rfl
   ·erw [hfc];exact .inl hx
   ·have:=hnf _ hx;simp at this)
  nd (by erw [hfc];exact nd) (by simp [bc]) (λi sv h=>by
   unfold bc at h
   rw [gY] at h
   obtain ⟨_,_,e⟩:=(aA h:_)
   exact .inl e.symm)
 have sub:=d8 s "frame" fd.scope.names
 have hf:∀ b∈κ'++[s.heap.objs.size],s.heap.get? b=none:=λb hb=>by
  rcases aw hb with q | q
  ·exact hκ' b q
  ·erw [aE q];exact hL
 refine ma (wpAny_mono (gC (A:=A.in1) g names ix vs svs _ st _ hix hlen x hv (Kp.of_sub sub) hf h1 _) (λU s₁ w=>?_) λU U q=>q.elim)
 obtain ⟨x₁,g₁⟩:=w
 exact ⟨x₁.gi.ok.nolimit.keeps x₁.gi.top,codeAny_func (cont _ κ' s₁ rfl hf x₁ ((bR.of_gr (Gr.of_sub sub)).trans (λb hb=> .inl hb) g₁) (hA.deeper _))⟩
def rG (W:Wd) (Fr:Option (List Env)) (n:Nat) (fc:FC) (b:List Stmt) (f:List SV->Option (List SV×Fl)):Prop:=
 ∀ (A:Around) (env:Env) (κ:List Addr) (B:aN) (ω:List Addr) (st:List SV) (s:Shared) (out:List SV×Fl),A.frames=Fr.map (env::·)->env.frame=some env.locals->cf n A->bD W fc env κ B ω st s->f st=some out->
  wpAny W.M A (execs b env) (bf W fc env κ B ω s out) (λU U=>False) s
theorem SS.f {Fr n b f} (h:SS W n fc b f):rG W Fr n fc b f:=λA env κ B ω st s out _ _=>h A env κ B ω st s out
theorem bR.fresh {κ' L s s₂} (g02:bR W κ' [L] s s₂) (hf:∀ b∈κ'++[L],s.heap.get? b=none):Kp W.T s.heap s₂.heap:=λb o n e=>g02.kp b o (λq=>(aw q).elim n λq=>by rw [hf b q] at e;w_cond e) e
theorem jq {k a fd body names ix fb} {A:Around} (F:jL W a fd body) (hfc:fd.scope.names=fc.names) (hck:iT fc=true) (hix:b5 fc names ix=true) (hb:rG W A.frames k fc body fb) (hlam:∀ t,fc.lam=some t->fd.code= .ref t.1/\fd.qualname++Str.ofString ".<locals>."++Str.ofString "<lambda>"=t.2.2) {s μ ν args vs svs sv} (hbind:∀ (A:Around) (E:Value->Shared->Prop) (Q:List (Str×Value)->Shared->Prop),Q (names.zip vs) s->wpAny W.M A (bindArgs fd args) Q E s) (hlen:vs.length=names.length) (hA:cf (k+1) A) (g:GI W s) (ex:Ex s μ) (hν:∀ b∈ν,b∈μ) (hnr:∀ b∈ν,∀ o,s.heap.get? b=some o->dq o) (hv:aS W s.heap μ ν vs svs) (h:bC fc ix fb svs=some sv):
  codeAny W.M A (.call (.ref a) args) (λr s'=>∃ v,r= .ok (.ret v)/\dm W s'.heap μ ν v sv/\Gr W s s') s:=by
 obtain ⟨st,h1,h2⟩:=(ah h:_)
 refine jQ F hfc hck hix hlam hbind hlen hA g ex hν hnr hv h1 λenv κ' s₁ hfr hf x₁ g₁ hA₁=>?_
 cases e:fb st with
 | none=>erw [e] at h2;w_cond h2
 | some out=>
  erw [e] at h2
  have hG:∀ (s₂:Shared),GI W s₂->bR W κ' [env.locals] s₁ s₂->Gr W s s₂:=λs₂ gi₂ gg=>by
   have g02:=g₁.trans (λb hb=> .inl hb) gg
   exact ⟨g02.fresh hf,λU=>gi₂,g02.gens,g02.os,g02.dom⟩
  refine wpAny_mono (hb _ env κ' ⟨μ,ν⟩ [env.locals] st s₁ out rfl hfr hA₁ x₁ e) (λfl s₂ y=>?_) λU U q=>q.elim
  obtain ⟨st2,fl2⟩:=out
  cases fl2 with
  | next=>
   w_cond h2
   obtain ⟨gg,rfl,ω',x',_⟩:=y
   exact ⟨.none,rfl,Data.none,hG s₂ x'.gi gg⟩
  | brk=>w_cond h2
  | ret sv'=>
   w_cond h2
   obtain ⟨gg,v,rfl,hvr,gi₂⟩:=y
   exact ⟨v,rfl,hvr,hG s₂ gi₂ gg⟩
theorem aS.of_data {μ ν vs ds} (x:ae W (fz W s.heap μ) vs ds):aS W s.heap μ ν vs (ds.map .d):=by
 induction vs generalizing ds with
 | nil=>w_cond x;exact .nil
 | cons v vs ih=>cases x with | cons a b=>exact .cons a (ih b)
noncomputable def fC (f:List SV->Option SV) (ds:List PV):Option PV:=dy (f (ds.map .d))
theorem fw {k a fd body names ix fb} (F:jL W a fd body) (hfc:fd.scope.names=fc.names) (hck:iT fc=true) (hix:b5 fc names ix=true) (hb:SS W k fc body fb) (hbind:∀ vs:List Value,vs.length=names.length->bindArgs fd ⟨vs,[]⟩=pure (names.zip vs)) (hlen:∀ ds r,fC (bC fc ix fb) ds=some r->ds.length=names.length) (hlam:∀ t,fc.lam=some t->fd.code= .ref t.1/\fd.qualname++Str.ofString ".<locals>."++Str.ofString "<lambda>"=t.2.2:=by intro t h;w_cond h):
  gJ W (k+1) (λvs=>call (.ref a) vs) (fC (bC fc ix fb)):=by
 intro A s μ vs ds r hA g ex hv h
 have hl:vs.length=names.length:=hv.length.trans (hlen ds r h)
 refine wpAny_call (codeAny_mono (jq F hfc hck hix hb.f hlam (μ:=μ) (ν:=[]) (λA E Q q=>by erw [hbind vs hl];exact wpAny_pure q) hl hA g ex (λb hb=>by w_cond hb) (λb hb=>by w_cond hb) (aS.of_data hv) (c7 h)) λr s' y=>?_)
 obtain ⟨v,rfl,hvr,gr⟩:=y
 exact ⟨hvr,gr⟩
theorem gm:∀ (ix:List Nat) (svs:List SV) (st st':List SV),aY fc ix svs st=some st'->svs.length=ix.length:=by
 intro zv
 induction zv with
 | nil=>
  intro zw
  cases zw with
  | nil=>exact λU U U=>rfl
  | cons sv svs=>
   intro _ _ h
   simp [ik,im,io,ip] at h
 | cons i is ih=>
  intro zw
  cases zw with
  | nil=>
   intro _ _ h
   simp [ik,im,io,ip] at h
  | cons sv svs=>
   intro st st' h
   simp only [ik,im,io,ip] at h
   split at h
   ·simp [ih svs _ _ h]
   ·w_cond h
theorem fZ:∀ (ys:List Str) (ix:List Nat),b5 fc ys ix=true->ys.length=ix.length:=by
 intro zv
 induction zv with
 | nil=>
  intro zw
  cases zw with
  | nil=>exact λU=>rfl
  | cons _ _=>
   intro h
   w_cond h
 | cons y ys ih=>
  intro zw
  cases zw with
  | nil=>
   intro h
   w_cond h
  | cons i is=>
   intro h
   simp only [rp,rq,rr,ru,Bool.and_eq_true] at h
   simp [ih is h.2]
theorem cI {names ix fb} (hix:b5 fc names ix=true):∀ ds r,fC (bC fc ix fb) ds=some r->ds.length=names.length:=by
 intro ds r h
 obtain ⟨st,h1,_⟩:=ah (c7 h)
 have:=gm _ _ _ _ h1
 erw [fZ _ _ hix,<-this,fJ]
def cG (W:Wd) (fc:FC) (y:Str) (a:Addr):Prop:=fc.names.lookup y=some .globalImplicit/\W.mg y=some (.ref a)/\(y==("__debug__":Str))=false
theorem cE {y a fd o p pos e es fop fa} (k) (hg:cG W fc y a) (ho:W.G.get? a=some o) (hd:o.data= .func fd) (hop:gJ W k (λvs=>call (.ref a) vs) fop) (ha:gb W n fc (e::es) fa) (hk:k<=n) (he:∀ env,starEach (e::es) env=(false,eval e env)::starEach es env:=by w_left):
  SE W n fc (.Call (.Name y p) (e::es) [] pos) (λst=>(fa st).bind λds=>(fop ds).map .d):=by
 intro A env κ B ω st s sv hA x h
 obtain ⟨ds,h1,h⟩:=ah h
 obtain ⟨r,h2,rfl⟩:=(aA h:_)
 refine wpAny_Call_Name_kw (fh hg.1 hg.2.2 hg.2.1 x ?_)
 refine callWith_def (o:=o) hd (wpAny_mono (ha A env κ B ω st s ds pos hA x h1) (λvs s₁ z=>?_) λU U q=>q) (he env)
 have x₁:=x.gr z.2
 exact ⟨x₁.gi.top _ _ ho,wpAny_mono (hop A s₁ _ vs ds r (hA.le hk) x₁.gi x₁.ex z.1 h2) (λv s₂ w=>⟨w.1,z.2.trans w.2⟩) λU U q=>q⟩
noncomputable def JA (is:List Nat) (f:List SV->Option SV) (st:List SV):Option SV:=(dH is st).bind λst'=>(dy (f st')).bind λd=>if d.flat then some (.d d) else none
theorem Gh {e f} (is) (hf:ST W n fc e f):ST W n fc e (λst=>(dH is st).bind f):=by
 intro A env κ B ω st s b hA x h
 obtain ⟨st',h1,h2⟩:=(ah h:_)
 obtain ⟨ω',y,hω⟩:=x.frzs is h1
 exact hf A env κ B ω' st' s _ hA y h2
theorem Az {p pos pt e f} (hb:iD W fc "isinstance") (hbt:iD W fc "tuple") (hf:SE W n fc e f) (he:∀ env,starEach [e,.Name "tuple" pt] env=(false,eval e env)::starEach [.Name "tuple" pt] env:=by w_left):
  SE W n fc (.Call (.Name "isinstance" p) [e,.Name "tuple" pt] [] pos) (λst=>(de f st).bind λd=>(fG d).map λU=> .d (.bool false)):=by
 intro A env κ B ω st s sv hA x h
 obtain ⟨d,h1,h⟩:=ah h
 refine wpAny_Call_Name_kw (dD hb (by rfl) (by decide) x ?_)
 obtain ⟨i,h2,rfl⟩:=(aA h:_)
 obtain rfl:=aJ h2
 refine PyProof.Rows.callWith_builtin1 (wpAny_items_cons (wpAny_mono (hf A env κ B ω st s _ hA x (aT h1)) (λv s₁ z=>?_) λU U q=>q) (he env)) (he env) rfl
 obtain ⟨zd,g⟩:=z
 cases zd using Data.intE with | mk t=>
 refine wpAny_items_cons (dD hbt (by rfl) (by decide) (x.gr g) (wpAny_items_nil ?_)) rfl
 exact IsiPair.int_tuple ⟨.bool _,g.trans (Gr.tok _)⟩
theorem F7 {o e1 e2 apos pos fo f1 f2} (ho:SE W n fc o fo) (h1:SE W n fc e1 f1) (h2:SE W n fc e2 f2) (hbase:∀ env,attributeBase o "get" env (eval o env)=eval o env:=by w_left) (hfew:∀ env,((backTo pos (starEach [e1,e2] env)).all (λx=>!x.1)&&(backToKw pos (keywordEach [] env)).all (λx=>x.1.isSome)&&decide ([e1,e2].length + ([]:List Keyword).length + (if ([]:List Keyword).isEmpty then 0 else 1)<30))=true:=by w_left) (hline:(apos.endLine==pos.line)=true:=by rfl) (htr:∀ env,backTo pos (starEach [e1,e2] env)=[(false,eval e1 env),(false,eval e2 env)]:=by w_left):
  SE W n fc (.Call (.Attribute o "get" apos) [e1,e2] [] pos) (λst=>(de fo st).bind λd=>(de f1 st).bind λk=>(de f2 st).bind λv=>(JV d k v).map .d):=by
 intro A env κ B ω st s sv hA x h
 obtain ⟨d,q1,h⟩:=ah h
 obtain ⟨k,q2,h⟩:=ah h
 obtain ⟨v,q3,h⟩:=ah h
 obtain ⟨r,q4,rfl⟩:=(aA h:_)
 obtain ⟨⟨ks,ys⟩,hp,q4⟩:=ah q4
 obtain ⟨l,q5,rfl⟩:=(aA q4:_)
 obtain rfl:=aJ q5
 refine wpAny_Call_method (hbase env) (hfew env) hline F.plainAttrs_dict F.slot_dict_get F.type_dict_get (wpAny_mono (ho A env κ B ω st s _ hA x (aT q1)) (λov s₁ z=>?_) λU U q=>q)
 obtain ⟨zd,g⟩:=z
 haveI x₁:=x.gr g
 have zd:=hU hp zd
 obtain ⟨t1,t2⟩:=pq (s:=s₁) zd (av _ _ _) rfl
 refine ⟨t1,t2,?_⟩
 clear t1 t2
 rw [htr]
 cases zd using Data.dIE with | mk a kvs ep e nn m1 b q=>
 refine wpAny_dict_get2 (knd:=PySem.intKind W.prog W.w) (by simpa using q) (wpAny_mono (h1 A env κ B ω st s₁ _ hA x₁ (aT q2)) (λkv s₂ z2=>?_) λU U q=>q)
 refine wpAny_mono (h2 A env κ B ω st s₂ _ hA (x₁.gr z2.2) (aT q3)) (λdv s₃ z3=>?_) λU U q=>q
 have k₃:Data W (fz W s₃.heap (aq B κ ω)) kv (.int l):=Data.sub (bo _ z3.2.kp) z2.1
 haveI g13:=z2.2.trans z3.2
 cases k₃ using Data.intE with | mk t=>
 haveI e₃:=e.keep (bo _ g13.kp)
 refine ⟨l,_,dn W l t,(e₃.keep (av _ _ _)).dictOf.mapOf,?_,g.trans (g13.trans (Gr.tok _))⟩
 obtain ⟨w1,w2⟩:=jv m1 (b.sub (bo _ g13.kp)) l
 cases hl:eN ks ys l with
 | some d=>obtain ⟨u,r1,r2⟩:=w1 d hl;erw [r1];exact r2
 | none=>erw [w2 hl];exact z3.1
inductive VO (W:Wd) (h:Heap) (μ ν:List Addr):List Value->List SV->List Addr->Prop
 | nil:VO W h μ ν [] [] []
 | pl {v:Value} {sv:SV} {vs:List Value} {svs:List SV} {R:List Addr}:(∀ d,sv≠ .own d)->dm W h μ ν v sv->VO W h μ ν vs svs R->VO W h μ ν (v::vs) (sv::svs) R
 | ow {a:Addr} {d:PV} {vs:List Value} {svs:List SV} {R:List Addr}:aB W h (fz W h μ) a d->VO W h μ ν vs svs R->VO W h μ ν (.ref a::vs) (.own d::svs) (a::R)
noncomputable def dK (fc:FC) (i:Nat):Bool:=(fc.names[i]?).any EC
noncomputable def IX:SV->Bool
 | .fn _=>false
 | _=>true
noncomputable def o4 (svs:List SV):Bool:=svs.all IX
theorem sB {v vs} (h:o4 (v::vs)=true):IX v=true/\o4 vs=true:=Bool.and_eq_true_iff.mp (show (IX v&&o4 vs)=true from h)
noncomputable def di (fc:FC):List Nat->List SV->List SV->Option (List SV)
 | [],[],st=>some st
 | i::is,sv::svs,st=>if (o4 (sv::svs) || dK fc i) then di fc is svs (cF fc st i sv) else none
 | _,_,_=>none
theorem my {fc st}:di fc [] [] st=some st:=rfl
theorem mz {fc i is sv svs st}:di fc (i::is) (sv::svs) st=if (o4 (sv::svs) || dK fc i) then di fc is svs (cF fc st i sv) else none:=rfl
theorem mA {fc i is st}:di fc (i::is) [] st=none:=rfl
theorem mB {fc sv svs st}:di fc [] (sv::svs) st=none:=rfl
theorem VO.own_ex {h μ ν vs svs R} (x:VO W h μ ν vs svs R):∀ b∈R,∃ o,h.get? b=some o/\∀ vs,o.data≠ .fields vs:=by
 induction x with
 | nil=>intro b hb;w_cond hb
 | pl _ _ _ ih=>exact ih
 | ow c _ ih=>
  intro b hb
  rcases aX hb with rfl | hb
  ·exact c.ex
  ·exact ih b hb
theorem VO.move {h h' μ μ' ν ν' vs svs R} (x:VO W h μ ν vs svs R) (k:bF (fz W h μ) (fz W h' μ')) (kf:o4 svs=true∨bF (fz W h ν) (fz W h' ν')) (ho:∀ b∈R,∀ o,h.get? b=some o->h'.get? b=some o):VO W h' μ' ν' vs svs R:=by
 induction x with
 | nil=>exact .nil
 | @pl v sv vs svs R hn hv _ ih=>
  refine .pl hn ?_ (ih (kf.imp (λq=>(sB q).2) id) ho)
  cases sv with
  | u=>trivial
  | d d=>exact Data.sub k hv
  | obj c d=>exact eG.sub hv k
  | ptr a d=>exact ⟨hv.1,Data.sub k hv.2⟩
  | own d=>exact absurd rfl (hn d)
  | fn f=>
   rcases kf with q | kf
   ·w_cond q
   ·exact mL.sub hv kf
 | ow c _ ih=>exact .ow (c.move (ho _ (.head _)) k) (ih (kf.imp (λq=>(sB q).2) id) λb hb=>ho b (.tail _ hb))
theorem aR.pull {a} (x:aR W fc env κ ⟨a::B.μ,a::B.ν⟩ ω st s m cm) (hν:∀ b∈B.ν,b∈B.μ) (ha:a∉B.μ) (hG:W.G.get? a=none):aR W fc env κ B (a::ω) st s m cm:=by
 have p1:∀ b,b∈aq B κ (a::ω)↔b∈aq ⟨a::B.μ,a::B.ν⟩ κ ω:=λb=>by
  simp only [aq,List.mem_append,List.mem_cons]
  constructor
  ·rintro (q | q | q | q)
   ·exact .inl (.inr q)
   ·exact .inr (.inl q)
   ·exact .inl (.inl q)
   ·exact .inr (.inr q)
  ·rintro ((q | q) | q | q)
   ·exact .inr (.inr (.inl q))
   ·exact .inl q
   ·exact .inr (.inl q)
   ·exact .inr (.inr (.inr q))
 have p2:∀ b∈bw B (a::ω),b∈bw ⟨a::B.μ,a::B.ν⟩ ω:=λb=>by
  simp only [bw,List.mem_append,List.mem_cons]
  rintro (q | q | q)
  ·exact .inl (.inr q)
  ·exact .inl (.inl q)
  ·exact .inr q
 exact { x with
  lω:= .tail _ x.lω
  νμ:=hν
  cν:=λy c h q=>x.cν y c h (.tail _ q)
  cω:=λy c h q=>by
   rcases aX q with q | q
   ·exact x.cν y c h (by erw [q];exact .head _)
   ·exact x.cω y c h q
  vars:=λi sv h=>(x.vars i sv h).imp id λ⟨xk,v,a',b',c,d⟩=>⟨xk,v,a',b',c,d.move ⟨aG λb hb=>(p1 b).mp hb,aG p2⟩ λU U U U U e U=>e⟩
  oω:=λi d xk a h1 h2 h3=> .tail _ (x.oω i d xk a h1 h2 h3)
  dj:=λb hb q=>by
   rcases aX hb with rfl | hb
   ·exact ha q
   ·exact x.dj b hb (.tail _ q)
  ex:=λb hb=>x.ex b ((p1 b).mp hb)
  nc:=λb hb=>x.nc b (p2 b hb)
  gn:=λb hb=>by
   simp only [List.mem_append,List.mem_cons] at hb
   rcases hb with q | rfl | q
   ·exact x.gn b (cY _ q)
   ·exact hG
   ·exact x.gn b (lR _ q) }
theorem oy {i} {sv:SV} (h:dK fc i=true):∃ y,fc.names[i]? =some (y,.local):=by
 exact yQ h
theorem mu {A y i v sv} (hl:dK fc i=true) (hw:eV fc y i=true) (x:aR W fc env κ B ω st s m cm) (hv:dm W s.heap (aq B κ ω) (bw B ω) v sv) (ho:∀ d a,sv= .own d->v= .ref a->a∈ω/\a≠env.locals/\∀ (j:Nat) (d':PV) (xk:Str×NameKind),st[j]? =some (.own d')->fc.names[j]? =some xk->bp m cm xk≠some (.ref a)):
  wpAny W.M A (storeName env y v) (λU s'=>bD W fc env κ B ω (cF fc st i sv) s'/\bR W κ ω s s'/\bF (fz W s.heap (bw B ω)) (fz W s'.heap (bw B ω))) (λU U=>False) s:=by
 refine Di λZG zH=>?_
 obtain ⟨k,hi,hlk,hk⟩:=j9 hw
 obtain ⟨y',hy'⟩:=oy (sv:=sv) hl
 erw [hi] at hy';(try clear hk);w_cond hy'
 haveI hkind:env.kindOf y=some .local:=(bz x.eo y).trans hlk
 refine zH ?_
 refine wpAny_storeName_local hkind x.ns (λh' hn hs=>⟨⟨λz=>if z=y then some v else m z,cm,?_⟩,bR.same_L x hn hs,gU hs (lR _ x.lω)⟩) (by erw [x.eo.kind];rfl)
 have:=x.store (s.toks+1) hi hn hs hv ho
 rw [ty hi];exact this
inductive TT (env:Env):List Str->List (Value->Sem Unit)->Prop
 | nil:TT env [] []
 | cons {y:Str} {t:Value->Sem Unit} {ys:List Str} {ts:List (Value->Sem Unit)}:(∀ (M:Model) (A:Around) (v:Value) (Q:Unit->Shared->Prop) (E:Value->Shared->Prop) (s:Shared),wpAny M A (storeName env y v) Q E s->wpAny M A (t v) Q E s)->TT env ys ts->TT env (y::ys) (t::ts)
theorem nU {A y i v sv svs} {t0:Value->Sem Unit} {ts vs Q} (hw:eV fc y i=true) (hb:(o4 (sv::svs) || dK fc i)=true) (ht0:∀ (M:Model) (A:Around) (v:Value) (Q:Unit->Shared->Prop) (E:Value->Shared->Prop) (s:Shared),wpAny M A (storeName env y v) Q E s->wpAny M A (t0 v) Q E s) (xc:aR W fc env κ B ω st s m cm) (hvr:dm W s.heap (aq B κ ω) (bw B ω) v sv) (ho:∀ d a,sv= .own d->v= .ref a->a∈ω/\a≠env.locals/\∀ (j:Nat) (d':PV) (xk:Str×NameKind),st[j]? =some (.own d')->fc.names[j]? =some xk->bp m cm xk≠some (.ref a)) (next:∀ s₁,bD W fc env κ B ω (cF fc st i sv) s₁->bR W κ ω s s₁->(o4 svs=true∨bF (fz W s.heap (bw B ω)) (fz W s₁.heap (bw B ω)))->wpAny W.M A (assignInOrder ts vs) Q (λU U=>False) s₁):wpAny W.M A (assignInOrder (t0::ts) (v::vs)) Q (λU U=>False) s:=by
 by_cases hl:dK fc i=true
 ·exact wpAny_assignInOrder_more (ht0 _ _ _ _ _ _ (wpAny_mono (mu hl hw xc hvr ho) (λU s₁ w=>next s₁ w.1 w.2.1 (.inr w.2.2)) λU U q=>q))
 ·haveI hb':o4 (sv::svs)=true:=by simpa [hl] using hb
  haveI hb':=sB hb'
  exact wpAny_assignInOrder_more (ht0 _ _ _ _ _ _ (wpAny_mono (cu hw xc hvr (λf e=>KV ((congrArg IX e).symm.trans hb'.1)) ho) (λU s₁ w=>next s₁ w.1 w.2 (.inl hb'.2)) λU U q=>q))
theorem v8 {A s₀} (x₀:bD W fc env κ B ω st s₀) (hνB:∀ b∈B.ν,b∈B.μ):∀ (names:List Str) (tt:List (Value->Sem Unit)) (ix:List Nat) (vs:List Value) (svs:List SV) (R:List Addr) (st st':List SV) (ω':List Addr) (s:Shared),TT env names tt->b5 fc names ix=true->bD W fc env κ ⟨R++B.μ,R++B.ν⟩ ω' st s->VO W s.heap (aq ⟨R++B.μ,R++B.ν⟩ κ ω') (bw ⟨R++B.μ,R++B.ν⟩ ω') vs svs R->R.Nodup->(∀ b∈R,s₀.heap.get? b=none)->(∀ b∈ω',b∈ω∨s₀.heap.get? b=none)->bR W κ ω s₀ s->di fc ix svs st=some st'->
  wpAny W.M A (assignInOrder tt vs) (λU s'=>∃ ω'',bD W fc env κ B ω'' st' s'/\(∀ b∈ω'',b∈ω∨s₀.heap.get? b=none)/\bR W κ ω s₀ s') (λU U=>False) s:=by
 intro names tt ix vs svs
 induction svs generalizing names tt ix vs with
 | nil=>
  intro R st st' ω' s ht hw x hv hR hf hω g h
  w_cond hv
  cases ix with
  | cons i is=>w_cond h
  | nil=>
   w_cond h
   cases names with
   | cons y ys=>w_cond hw
   | nil=>w_cond ht;exact wpAny_assignInOrder_none ⟨ω',x,hω,g⟩
 | cons sv svs ih=>
  intro R st st' ω' s ht hw x hv hR hf hω g h
  cases ix with
  | nil=>w_cond h
  | cons i is=>
   cases names with
   | nil=>w_cond hw
   | cons y ys=>
    cases ht with | @cons _ t0 _ ts ht0 hts=>
    obtain ⟨hw1,hw2⟩:=Bool.and_eq_true_iff.mp hw
    obtain ⟨hb,h⟩:=bI h
    obtain ⟨m,cm,xc⟩:=id x
    cases hv with
    | @pl v _ vs _ _ hn hvr hv=>
     refine nU hw1 hb ht0 xc hvr (λd a e=>absurd e (hn d)) λs₁ x₁ g₁ hfn=>?_
     refine ih ys ts is vs R _ st' ω' s₁ hts hw2 x₁ (hv.move (g₁.fz (ω':=ω') λb hb=>lR _ hb) hfn λb hb o e=>g₁.kp b o (λq=>?_) e) hR hf hω (g.trans hω g₁) h
     obtain ⟨o',e',hd⟩:=hv.own_ex b hb
     exact x.apartI (cY _ hb) (xc.gi.notin e' hd) q
    | @ow a d vs _ R c hv=>
     have hRn:=List.nodup_cons.mp hR
     have haB:a∉R++B.μ:=λq=>by
      rcases aw q with q | q
      ·exact hRn.1 q
      ·obtain ⟨o,e⟩:=x₀.ex a (cY _ q)
       erw [hf a (.head _)] at e;w_cond e
     haveI hν':∀ b∈R++B.ν,b∈R++B.μ:=λb hb=>(aw hb).elim (λh=>cY _ h) λh=>lR _ (hνB b h)
     have xp:=aR.pull (B:=⟨R++B.μ,R++B.ν⟩) xc hν' haB (b6 x₀.gi (hf a (.head _)))
     have eqμ:∀ b,b∈aq ⟨R++B.μ,R++B.ν⟩ κ (a::ω')->b∈aq ⟨a::R++B.μ,a::R++B.ν⟩ κ ω':=λb hb=>by
      simp only [aq,List.mem_append,List.mem_cons] at hb ⊢
      rcases hb with (q | q) | q | q | q
      ·exact .inl (.inl (.inr q))
      ·exact .inl (.inr q)
      ·exact .inr (.inl q)
      ·exact .inl (.inl (.inl q))
      ·exact .inr (.inr q)
     have eqν:∀ b,b∈bw ⟨R++B.μ,R++B.ν⟩ (a::ω')->b∈bw ⟨a::R++B.μ,a::R++B.ν⟩ ω':=λb hb=>by
      simp only [bw,List.mem_append,List.mem_cons] at hb ⊢
      rcases hb with (q | q) | q | q
      ·exact .inl (.inl (.inr q))
      ·exact .inl (.inr q)
      ·exact .inl (.inl (.inl q))
      ·exact .inr q
     haveI hωa:∀ b∈a::ω',b∈ω∨s₀.heap.get? b=none:=λb hb=>by
      (try clear hR);(try clear haB);rcases aX hb with rfl | hb
      ·exact .inr (hf b (.head _))
      ·exact hω b hb
     refine nU hw1 hb ht0 xp ⟨a,rfl,c.move (λU e=>e) (aG eqμ)⟩ (λd' a' U q=>?_) λs₁ x₁ g₁ hfn=>?_
     ·w_cond q
      exact ⟨.head _,λq=>xc.dj _ xc.lω (by erw [<-q];exact .head _),λj d'' xk h1 h2 h3=>xc.dj a (xc.oω j d'' xk a h1 h2 h3) (.head _)⟩
     ·refine ih ys ts is vs R _ st' (a::ω') s₁ hts hw2 x₁ ((hv.move (aG eqμ) (.inr (aG eqν)) λU U U e=>e).move (g₁.fz (ω':=ω') λb hb=>lR _ hb) hfn λb hb o e=>g₁.kp b o (λq=>?_) e) hRn.2 (λb hb=>hf b (.tail _ hb)) hωa (g.trans hωa g₁) h
      obtain ⟨o',e',hd⟩:=hv.own_ex b hb
      have h1:=x.apartI (.tail _ (cY _ hb)) (xc.gi.notin e' hd)
      simp only [List.mem_append,List.mem_cons] at q h1
      rcases q with q | q | q | q
      ·exact h1 (.inl q)
      ·exact h1 (.inr (.inl q))
      ·exact hRn.1 (q ▸ hb)
      ·exact h1 (.inr (.inr q))
def DO (W:Wd) (n:Nat) (fc:FC) (es:List Expr) (f:List SV->Option (List SV)):Prop:=
 ∀ (A:Around) (env:Env) (κ:List Addr) (B:aN) (ω:List Addr) (st:List SV) (s:Shared) (svs:List SV) (pos:Pos),cf n A->bD W fc env κ B ω st s->f st=some svs->
  wpAny W.M A (spliced (backTo pos (starEach es env))) (λvs s'=>∃ R,R.Nodup/\(∀ b∈R,s.heap.get? b=none)/\VO W s'.heap (aq ⟨R++B.μ,R++B.ν⟩ κ ω) (bw ⟨R++B.μ,R++B.ν⟩ ω) vs svs R/\Gr W s s') (λU U=>False) s
theorem jh:DO W n fc [] (λU=>some []):=by
 intro A env κ B ω st s svs pos hA x h
 w_cond h
 exact wpAny_items_nil ⟨[],List.nodup_nil,(by intro b hb;w_cond hb),.nil,Gr.refl _ _⟩
theorem VO.ex_all {h μ ν vs svs R} (x:VO W h μ ν vs svs R):∀ b∈R,∃ o,h.get? b=some o/\dq o:=λb hb=>let ⟨o,e,hd⟩:=x.own_ex b hb;⟨o,e,.of hd⟩
noncomputable def ve (f:List SV->Option SV) (st:List SV):Option SV:=(f st).bind EP
theorem s9 {f st w} (h:ve f st=some w):f st=some w/\∀ d,w≠ .own d:=by
 obtain ⟨v,h1,h3⟩:=(ah h:_)
 obtain ⟨rfl,h3⟩:=uD h3
 exact ⟨h1,h3⟩
theorem iC {e es f g} (hf:SE W n fc e f) (hg:DO W n fc es g) (he:∀ env,starEach (e::es) env=(false,eval e env)::starEach es env:=by w_left):
  DO W n fc (e::es) (λst=>(ve f st).bind λd=>(g st).map (d::·)):=by
 intro A env κ B ω st s svs pos hA x h
 obtain ⟨d,h1,h⟩:=ah h
 obtain ⟨ds',h2,rfl⟩:=(aA h:_)
 have h1':=s9 h1
 refine wpAny_items_cons (wpAny_mono (hf A env κ B ω st s _ hA x h1'.1) (λv s₁ g₁=>?_) λU U e=>e) (he env)
 have x₁:=x.gr g₁.2
 refine wpAny_mono (hg A env κ B ω st s₁ ds' pos hA x₁ h2) (λvs s₂ g₂=>?_) λU U e=>e
 obtain ⟨R,r1,r2,r3,r4⟩:=g₂
 have fr:∀ b o,s₁.heap.get? b=some o->b∉R:=λb o e q=>by rw [r2 b q] at e;w_cond e
 have e1:aq ⟨R++B.μ,R++B.ν⟩ κ ω=R++aq B κ ω:=kr ..
 have e2:bw ⟨R++B.μ,R++B.ν⟩ ω=R++bw B ω:=kr ..
 refine ⟨R,r1,λb hb=>g₁.2.dom b (r2 b hb),.pl h1'.2 ?_ r3,g₁.2.trans r4⟩
 erw [e1,e2]
 exact g₁.1.move ⟨ax λb o n1 n2 e=>⟨λq=>(aw q).elim (fr b o e) n2,r4.kp b o n1 e⟩,ax λb o n1 n2 e=>⟨λq=>(aw q).elim (fr b o e) n2,r4.kp b o n1 e⟩⟩ λd' e=>absurd e (h1'.2 d')
theorem kF {e es f g} (hf:SF W n fc e f) (hg:DO W n fc es g) (he:∀ env,starEach (e::es) env=(false,eval e env)::starEach es env:=by w_left):
  DO W n fc (e::es) (λst=>(f st).bind λd=>(g st).map (.own d::·)):=by
 intro A env κ B ω st s svs pos hA x h
 obtain ⟨d,h1,h⟩:=ah h
 obtain ⟨ds',h2,rfl⟩:=(aA h:_)
 refine wpAny_items_cons (wpAny_mono (hf A env κ B ω st s _ hA x h1) (λv s₁ g₁=>?_) λU U e=>e) (he env)
 obtain ⟨⟨a,rfl,hfr,c⟩,k⟩:=g₁
 obtain ⟨o,ho,hd⟩:=c.ex
 have x₁:=x.more k [a] (λb hb=>by rw [aE hb];exact hfr) (λb hb=>by rw [aE hb];exact ⟨o,ho,.of hd⟩)
 refine wpAny_mono (hg A env κ ⟨[a]++B.μ,[a]++B.ν⟩ ω st s₁ ds' pos hA x₁ h2) (λvs s₂ g₂=>?_) λU U e=>e
 obtain ⟨R,r1,r2,r3,r4⟩:=g₂
 have haR:a∉R:=λq=>by rw [r2 a q] at ho;w_cond ho
 have fr:∀ b o,s₁.heap.get? b=some o->b∉R:=λb o e q=>by rw [r2 b q] at e;w_cond e
 have eqμ:∀ b,b∈aq ⟨(a::R)++B.μ,(a::R)++B.ν⟩ κ ω->b∈aq ⟨R++([a]++B.μ),R++([a]++B.ν)⟩ κ ω:=λb hb=>by
  simp only [aq,List.mem_append,List.mem_cons,List.not_mem_nil,or_false] at hb ⊢
  rcases hb with ((q | q) | q) | q
  ·exact .inl (.inr (.inl q))
  ·exact .inl (.inl q)
  ·exact .inl (.inr (.inr q))
  ·exact .inr q
 have eqν:∀ b,b∈bw ⟨(a::R)++B.μ,(a::R)++B.ν⟩ ω->b∈bw ⟨R++([a]++B.μ),R++([a]++B.ν)⟩ ω:=λb hb=>by
  simp only [bw,List.mem_append,List.mem_cons,List.not_mem_nil,or_false] at hb ⊢
  rcases hb with ((q | q) | q) | q
  ·exact .inl (.inr (.inl q))
  ·exact .inl (.inl q)
  ·exact .inl (.inr (.inr q))
  ·exact .inr q
 refine ⟨a::R,List.nodup_cons.mpr ⟨haR,r1⟩,λb hb=>?_,.ow (c.move (λo' e=>r4.kp _ _ ((k.gi x.gi).notin ho hd) e) ?_) (r3.move (aG eqμ) (.inr (aG eqν)) λU U U e=>e),k.trans r4⟩
 ·rcases aX hb with rfl | hb
  ·exact hfr
  ·exact k.dom b (r2 b hb)
 ·refine ax λb o n1 n2 e=>⟨λq=>?_,r4.kp b o n1 e⟩
  have e1:aq ⟨(a::R)++B.μ,(a::R)++B.ν⟩ κ ω=(a::R)++aq B κ ω:=kr ..
  rw [e1] at q
  rcases aw q with q | q
  ·rcases aX q with q | q
   ·exact n2 (by erw [q];exact .head _)
   ·exact fr b o e q
  ·exact n2 (.tail _ q)
noncomputable def Ku (fc:FC) (ix:List Nat) (fs:List SV->Option (List SV)) (st:List SV):Option (List SV×Fl):=(fs st).bind λsvs=>if svs.length<=be then (di fc ix svs st).map (·,.next) else none
noncomputable def Kv (fc:FC) (ix:List Nat) (fs:List SV->Option (List SV)) (st:List SV):Option (List SV×Fl):=(fs st).bind λsvs=>if svs.length<=be then (di fc ix svs.reverse st).map (·,.next) else none
theorem VO.len {h μ ν vs svs R} (x:VO W h μ ν vs svs R):vs.length=svs.length:=by
 induction x with
 | nil=>rfl
 | pl _ _ _ ih=>simp [ih]
 | ow _ _ ih=>simp [ih]
theorem VO.append {h μ ν vs us svs sus R S} (x:VO W h μ ν vs svs R) (y:VO W h μ ν us sus S):VO W h μ ν (vs++us) (svs++sus) (R++S):=by
 induction x with
 | nil=>exact y
 | pl a b _ ih=>exact .pl a b ih
 | ow a _ ih=>exact .ow a ih
theorem VO.reverse {h μ ν vs svs R} (x:VO W h μ ν vs svs R):VO W h μ ν vs.reverse svs.reverse R.reverse:=by
 induction x with
 | nil=>exact .nil
 | pl a b _ ih=>simpa using ih.append (.pl a b .nil)
 | ow a _ ih=>simpa using ih.append (.ow a .nil)
theorem rn {A s₁ names tt ix vs svs R st'} (x:bD W fc env κ B ω st s) (ht:TT env names tt) (hw:b5 fc names ix=true) (r1:R.Nodup) (r2:∀ b∈R,s.heap.get? b=none) (r3:VO W s₁.heap (aq ⟨R++B.μ,R++B.ν⟩ κ ω) (bw ⟨R++B.μ,R++B.ν⟩ ω) vs svs R) (r4:Gr W s s₁) (h:di fc ix svs st=some st'):
  wpAny W.M A (assignInOrder tt vs) (λU s'=>bf W fc env κ B ω s (st',.next) .next s') (λU U=>False) s₁:=by
 have x₁:=x.more r4 R r2 λb hb=>r3.ex_all b hb
 refine wpAny_mono (v8 x x.νμ names tt ix vs svs R st st' ω s₁ ht hw x₁ r3 r1 r2 (λb hb=> .inl hb) (bR.of_gr r4) h) (λU s₂ w=>?_) λU U q=>q
 obtain ⟨ω'',a,b,c⟩:=w
 exact bf.of_inv rfl c a b
theorem bQ (env) (y) (p):∀ (M:Model) (A:Around) (v:Value) (Q:Unit->Shared->Prop) (E:Value->Shared->Prop) (s:Shared),wpAny M A (storeName env y v) Q E s->wpAny M A (assign (.Name y p) env v) Q E s:=λM A v Q E s h=>wpAny_assign_Name h
theorem AH (env) (y):∀ (M:Model) (A:Around) (v:Value) (Q:Unit->Shared->Prop) (E:Value->Shared->Prop) (s:Shared),wpAny M A (storeName env y v) Q E s->wpAny M A (bindName env y v) Q E s:=λM A v Q E s h=>wpAny_bindName h
theorem wE (env):∀ names:List Str,TT env names (names.map λn=>bindName env n):=by
 intro zv
 induction zv with
 | nil=>exact .nil
 | cons y ys ih=>exact .cons (AH env y) (ih)
set_option tactic.hygienic true in
theorem pF {es ts:List Expr} {k k2:Nat} {tp vp pos:Pos} {names:List Str} {ix:List Nat} {fs:List SV->Option (List SV)} (hw:b5 fc names ix=true) (hs:DO W n fc es fs)
  (hts:∀ env,TT env names ((assignEach ts env).map (·.2))) (hstar:∀ env,(assignEach ts env).findIdx? (·.1)=none)
  (hsole:∀ env,swapsWithSole [.Tuple ts k tp] (.Tuple es k2 vp) pos.line env=pure false) (hsw:∀ env,cx fc env->swappedStores [.Tuple ts k tp] (.Tuple es k2 vp) env=pure none):
  SX W n fc (.Assign [.Tuple ts k tp] (.Tuple es k2 vp) pos) (Ku fc ix fs):=by
 intro A env κ B ω st s out hA x h
 obtain ⟨svs,h1,h2⟩:=ah h
 split at h2
 ·rename_i hl
  obtain ⟨st',h3,rfl⟩:=aA h2
  refine Assign_Tuple (wpAny_Tuple (wpAny_mono (hs A env κ B ω st s svs _ hA x h1) (λvs s₁ z=>?_) λU U q=>q)) (hsole env) (hsw env (let ⟨_,_,q⟩:=x;q.eo))
  obtain ⟨R,r1,r2,r3,r4⟩:=z
  have hvl:vs.length=svs.length:=r3.len
  refine ⟨by rw [hvl];exact bj hl,?_⟩
  have g2:Gr W s₁ { s₁ with heap:=s₁.heap.push { cls:= .type "tuple",data:= .seq vs.toArray } }:=Gr.push _
  have tl:∀ (names:List Str) (tt:List (Value->Sem Unit)),TT env names tt->tt.length=names.length:=λnames tt h=>by
   induction h with
   | nil=>rfl
   | cons _ _ ih=>simp [ih]
  have sl:∀ (ix:List Nat) (svs:List SV) (st st':List SV),di fc ix svs st=some st'->svs.length=ix.length:=λix=>by
   induction ix with
   | nil=>intro svs st st' h;cases svs with | nil=>rfl | cons a b=>w_cond h
   | cons i is ih=>intro svs st st' h;cases svs with
    | nil=>w_cond h
    | cons a b=>
     simp only [my,mz,mA,mB] at h
     split at h
     ·simp [ih _ _ _ h]
     ·w_cond h
  refine wpAny_assign_Tuple hA.hd ⟨_,Heap.get?_push_size _ rfl,rfl,_,rfl⟩ (by
   have:=tl _ _ (hts env)
   rw [fJ] at this
   erw [this,List.size_toArray,hvl,sl _ _ _ _ h3,fZ _ _ hw]) (hstar env) λh' hx=>?_
  have k1:bF (s₁.heap.push { cls:= .type "tuple",data:= .seq vs.toArray }) h':=λb o e=>hx b o (λq=>by rw [q,aK] at e;w_cond e) e
  have g3:Gr W s₁ { s₁ with heap:=h' }:=g2.trans (Gr.of_sub k1)
  refine rn x (hts env) hw r1 r2 (r3.move (bo _ g3.kp) (.inr (bo _ g3.kp)) λb hb o e=>?_) (r4.trans g3) h3
  obtain ⟨o',e',hd⟩:=r3.own_ex b hb
  exact g3.kp _ _ ((r4.gi x.gi).notin e' hd) e
 ·w_cond h2
set_option tactic.hygienic true in
theorem oc {es ts k k2} {tp vp pos:Pos} {names ix fs} (hw:b5 fc names.reverse ix=true) (hs:DO W n fc es fs) (hsole:∀ env,swapsWithSole [.Tuple ts k tp] (.Tuple es k2 vp) pos.line env=pure false) (hsw:∀ env,cx fc env->swappedStores [.Tuple ts k tp] (.Tuple es k2 vp) env=pure (some names)):
  SX W n fc (.Assign [.Tuple ts k tp] (.Tuple es k2 vp) pos) (Kv fc ix fs):=by
 intro A env κ B ω st s out hA x h
 obtain ⟨svs,h1,h2⟩:=ah h
 split at h2
 ·rename_i hl
  obtain ⟨st',h3,rfl⟩:=aA h2
  rw [arm_exec_Assign,hsole]
  refine wpAny_bind (wpAny_standAt (wpAny_bind (wpAny_pure ?_)))
  simp only [Bool.false_eq_true,if_false]
  refine wpAny_bind (wpAny_Tuple (wpAny_mono (hs A env κ B ω st s svs _ hA x h1) (λvs s₁ z=>?_) λU U q=>q))
  obtain ⟨R,r1,r2,r3,r4⟩:=z
  have hvl:vs.length=svs.length:=r3.len
  refine ⟨by rw [hvl];exact bj hl,?_⟩
  erw [hsw env (let ⟨_,_,q⟩:=x;q.eo)]
  refine wpAny_bind (wpAny_pure ?_)
  have sl:∀ (ix:List Nat) (svs:List SV) (st st':List SV),di fc ix svs st=some st'->svs.length=ix.length:=λix=>by
   induction ix with
   | nil=>intro svs st st' h;cases svs with | nil=>rfl | cons a b=>w_cond h
   | cons i is ih=>intro svs st st' h;cases svs with
    | nil=>w_cond h
    | cons a b=>
     simp only [my,mz,mA,mB] at h
     split at h
     ·simp [ih _ _ _ h]
     ·w_cond h
  have hn:names.length=vs.toArray.size:=by
   have:=sl _ _ _ _ h3
   have h5:=fZ _ _ hw
   rw [List.length_reverse] at this h5
   erw [List.size_toArray,hvl,this,<-h5]
  have g2:Gr W s₁ { s₁ with heap:=s₁.heap.push { cls:= .type "tuple",data:= .seq vs.toArray } }:=Gr.push _
  unfold assignStores
  refine wpAny_bind (wpAny_rule (wpAny_bind ?_))
  rw [hn]
  refine PySem.wpAny_unpackItems_tuple hA.hd ⟨_,Heap.get?_push_size _ rfl,rfl,_,rfl⟩ λh' hx=>?_
  have k1:bF (s₁.heap.push { cls:= .type "tuple",data:= .seq vs.toArray }) h':=λb o e=>hx b o (λq=>by rw [q,aK] at e;w_cond e) e
  have g3:Gr W s₁ { s₁ with heap:=h' }:=g2.trans (Gr.of_sub k1)
  have e3:(vs.toArray).toList.reverse=vs.reverse:=by simp
  erw [e3]
  refine wpAny_bind (wpAny_mono (rn (R:=R.reverse) x (wE env names.reverse) hw (by rw [List.Nodup,List.pairwise_reverse];exact r1.imp λh=>h.symm) (λb hb=>r2 b (List.mem_reverse.mp hb)) ?_ (r4.trans g3) h3) (λU s₂ q=>wpAny_pure q) λU U q=>q)
  have r3':=r3.reverse.move (μ':=aq ⟨R.reverse++B.μ,R.reverse++B.ν⟩ κ ω) (ν':=bw ⟨R.reverse++B.μ,R.reverse++B.ν⟩ ω) (h':=h') ((bo _ g3.kp).trans (aG λb hb=>?_)) (.inr ((bo _ g3.kp).trans (aG λb hb=>?_))) λb hb o e=>?_
  ·exact r3'
  ·simpa only [aq,List.mem_append,List.mem_reverse] using hb
  ·simpa only [bw,List.mem_append,List.mem_reverse] using hb
  ·obtain ⟨o',e',hd⟩:=r3.own_ex b (List.mem_reverse.mp hb)
   exact g3.kp _ _ ((r4.gi x.gi).notin e' hd) e
 ·w_cond h2
theorem wM {v t:Expr} {pos:Pos} {ts k tp fv g} (hv:SE W n fc v fv) (ht:tm W fc (.Tuple ts k tp) g) (hsole:∀ env,swapsWithSole [.Tuple ts k tp] v pos.line env=pure false:=by w_left) (hsw:∀ env,cx fc env->swappedStores [.Tuple ts k tp] v env=pure none:=by w_left):
  SX W n fc (.Assign [.Tuple ts k tp] v pos) (λst=>(de fv st).bind λd=>(g st d).map (·,.next)):=by
 intro A env κ B ω st s out hA x h
 obtain ⟨d,h1,h2⟩:=(ah h:_)
 obtain ⟨st',h3,rfl⟩:=(aA h2:_)
 refine Assign_Tuple (wpAny_mono (hv A env κ B ω st s _ hA x (aT h1)) (λw s₁ z=>?_) λU U q=>q) (hsole env) (hsw env (let ⟨_,_,q⟩:=x;q.eo))
 exact wpAny_mono (ht A env κ B ω st s₁ w d st' hA.hd (x.gr z.2) z.1 h3) (λU s₂ u=>bf.of_gr z.2 (bf.of_inv rfl u.2 u.1 λb hb=> .inl hb)) λU U q=>q
end
noncomputable def xe (fc fc':FC) (ix:List Nat) (fb:List SV->Option (List SV×Fl)) (fa:List SV->Option (List PV)) (fk:List SV->Option SV) (dsv:List SV) (st:List SV):Option SV:=
 (fa st).bind λds=>(ve fk st).bind λkv=>(dy (bC fc' ix fb (ds.map .d++(dsv++[kv])))).map .d
section
variable {n:Nat} {fc fc':FC} {env:Env} {κ:List Addr} {B:aN} {ω:List Addr} {st:List SV} {s s':Shared} {m cm:Str->Option Value}
theorem aS.append {h μ ν vs us svs sus} (x:aS W h μ ν vs svs) (y:aS W h μ ν us sus):aS W h μ ν (vs++us) (svs++sus):=by
 induction x with
 | nil=>exact y
 | cons a _ ih=>exact .cons a ih
theorem bD.νhid (x:bD W fc env κ B ω st s):∀ b∈bw B ω,b∈aq B κ ω:=λb hb=>by
 simp only [bw,aq,List.mem_append] at hb ⊢
 exact hb.imp (x.νμ b) λh=> .inr h
theorem kO {y key a fd body p pos kp e ek es names ix fb fa fk dvs dsv} (k np) (hg:cG W fc y a) (F:jL W a fd body) (hfc:fd.scope.names=fc'.names) (hck:iT fc'=true) (hix:b5 fc' names ix=true) (hb:SS W k fc' body fb) (hk:k+1<=n) (hbind:∀ (s:Shared) (pvs:List Value) (kv:Value),GI W s->pvs.length=np->BindsTo s fd ⟨pvs,[(key,kv)]⟩ (names.zip (pvs++(dvs++[kv])))) (hnp:np+1 + dvs.length=names.length) (hd:∀ (h:Heap) (μ ν:List Addr),aS W h μ ν dvs dsv) (ha:gb W n fc (e::es) fa) (hka:SE W n fc ek fk) (he:∀ env,starEach (e::es) env=(false,eval e env)::starEach es env:=by w_left) (hlen:∀ st ds,fa st=some ds->ds.length=np) (hlam:∀ t,fc'.lam=some t->fd.code= .ref t.1/\fd.qualname++Str.ofString ".<locals>."++Str.ofString "<lambda>"=t.2.2:=by intro t h;w_cond h):
  SE W n fc (.Call (.Name y p) (e::es) [⟨some key,ek,kp⟩] pos) (xe fc fc' ix fb fa fk dsv):=by
 intro A env κ B ω st s sv hA x h
 obtain ⟨ds,h1,h⟩:=ah h
 obtain ⟨kd,h2,h⟩:=ah h
 have h2':=s9 h2
 obtain ⟨r,hr,rfl⟩:=(aA h:_)
 obtain ⟨o,ho,hdo⟩:=F.obj
 refine wpAny_Call_Name_kw (fh hg.1 hg.2.2 hg.2.1 x ?_)
 refine callWith_def_kw (o:=o) hdo (evalArgs_kw2 (by rfl) (wpAny_mono (ha A env κ B ω st s ds pos hA x h1) (λvs s₁ z=>?_) λU U q=>q) (he env))
 have x₁:=x.gr z.2
 refine wpAny_evalAll_cons (wpAny_bind (wpAny_mono (hka A env κ B ω st s₁ kd hA x₁ h2'.1) (λkv s₂ w=>wpAny_bind (wpAny_standAt (wpAny_pure (wpAny_evalAll_nil ?_)))) λU U q=>q))
 have x₂:=x₁.gr w.2
 have hl:vs.length=np:=z.1.length.trans (hlen st ds h1)
 refine ⟨x₂.gi.top _ _ ho,wpAny_call (codeAny_mono (jq F hfc hck hix hb.f hlam (vs:=vs++(dvs++[kv])) (μ:=aq B κ ω) (ν:=bw B ω) (hbind s₂ vs kv x₂.gi hl W.M) (by simp;w_fin) (hA.le hk) x₂.gi x₂.ex x₂.νhid (let ⟨_,_,q⟩:=x₂;q.nc) ((aS.of_data (z.1.sub (bo _ w.2.kp)):aS W s₂.heap _ _ _ _).append ((hd _ _ _).append (.cons w.1 .nil))) (c7 hr)) λr' s₃ u=>?_)⟩
 obtain ⟨v,rfl,u1,u2⟩:=u
 exact ⟨u1,z.2.trans (w.2.trans u2)⟩
end
set_option tactic.hygienic true in
theorem kG {pos' a b c c1} (l) (h:TriplesOk l) (e:codeAmong pos' (l++[rawInt a,rawInt b,c])=some c1):codeAmong pos' l=some c1∨c1=c:=by
 fun_induction TriplesOk l with
 | case1=>
  simp only [List.nil_append,rawInt,codeAmong] at e
  split at e
  ·w_cond e;exact .inr rfl
  ·w_cond e
 | case2 a' t b' u x rest ih=>
  simp only [List.cons_append,codeAmong] at e ⊢
  split at e
  ·rename_i hc;rw [if_pos hc];exact .inl e
  ·rename_i hc;rw [if_neg hc];exact ih h e
 | case3=>w_cond h
theorem BL {α β:Type} {f:α->β}:∀ {l:List α},(l.map f).Nodup->∀ {x y:α},x∈l->y∈l->f x=f y->x=y:=by
 intro zv
 induction zv with
 | nil=>
  intro _ x y h _ _
  w_cond h
 | cons a l ih=>
  intro hn x y hx hy e
  simp only [List.map_cons,List.nodup_cons] at hn
  rcases aX hx with hx' | hx' <;> rcases aX hy with hy' | hy'
  ·rw [hx',hy']
  ·rw [hx'] at e;exact absurd (List.mem_map.mpr ⟨y,hy',e.symm⟩) hn.1
  ·rw [hy'] at e;exact absurd (List.mem_map.mpr ⟨x,hx',e⟩) hn.1
  ·exact ih hn.2 hx' hy' e
section
variable {n:Nat} {fc:FC} {env:Env} {κ:List Addr} {B:aN} {ω:List Addr} {st:List SV} {s s':Shared} {m cm:Str->Option Value}
theorem GI.grow (g:GI W s) {t} (ht:t∈W.tabs) {ps} (hc:s.heap.IsCode t.1 t.2.1 ps) (ha:s.heap.TableAt t.1 t.2.1 ps) (hr:∀ pos c',codeAmong pos ps.toList=some c'->s.heap.CodeRec c' t.2.2) {h' tk a b c'} (hx:Heap.ExtBut t.2.1 s.heap h') (hP:h'.get? t.2.1=some (jI (ps++#[rawInt a,rawInt b,.ref c']))) (hc':h'.CodeRec (.ref c') t.2.2):GI W { s with heap:=h',toks:=tk }:=by
 haveI hPT:t.2.1∈W.T:=List.mem_map.mpr ⟨t,ht,rfl⟩
 refine Di λZG zH=>?_
 have e0:=eE ha
 obtain ⟨o,vs,file,tf,flags,tg,inF,text,tt,op,d1,r1,r2,r3,r4,r5,r6,d2,d3,d4,d5⟩:=id hc
 refine zH ?_
 ctx_has e0 d2
 w_cond d3
 have nrec:∀ (cd:Value) (q:Str),s.heap.CodeRec cd q->h'.CodeRec cd q:=λcd q ⟨c,o,vs,tok,q1,q2,q3,q4⟩=>⟨c,o,vs,tok,q1,hx _ _ (λw=>by
  rw [w,e0] at q2;w_cond q2;w_cond q3
  exact triples_no_str d4 q tok (by simpa using q4)) q2,q3,q4⟩
 refine ⟨g.ok,λb o e=>?_,λt' ht'=>?_,g.bare⟩
 ·by_cases q:b=t.2.1
  ·rw [q,g.ok.tG _ hPT] at e;w_cond e
  ·exact hx b o q (g.top b o e)
 ·by_cases q:t'.2.1=t.2.1
  ·have:t'=t:=BL g.ok.tnd ht' ht q
   (try clear hc);subst this
   refine ⟨_,⟨o,vs,file,tf,flags,tg,inF,text,tt,_,hx _ _ d5 d1,r1,r2,r3,r4,r5,r6,hP,rfl,?_,d5⟩,?_,λpos c1 e=>?_⟩
   ·have:=TriplesOk_snoc a b (.ref c') _ d4
    simpa using this
   ·obtain ⟨⟨o1,v1,w1,w2⟩,_⟩:=ha
    exact ⟨⟨o1,v1,hx _ _ d5 w1,w2⟩,hP⟩
   ·haveI e':codeAmong pos (ps.toList++[rawInt a,rawInt b,.ref c'])=some c1:=by simpa using e
    rcases kG _ d4 e' with w | w
    ·exact nrec _ _ (hr pos c1 w)
    ·rw [w];exact hc'
  ·obtain ⟨ps',x,y,z⟩:=g.tab t' ht'
   haveI hcn:t'.1≠t.2.1:=λw=>by
    obtain ⟨o1,v1,w1,w2,w3,w4⟩:=y.1
    rw [w,e0] at w1;w_cond w1;w_cond w2
   exact ⟨ps',x.extBut hx hcn q,y.extBut hx hcn q,λpos c1 e=>nrec _ _ (z pos c1 e)⟩
theorem Kw (g:GI W s) {b o} (e:s.heap.get? b=some o) (hd:∀ vs,o.data≠ .fields vs):(fz W s.heap []).get? b=some o:=bx.mpr ⟨e,g.notin e hd,List.not_mem_nil⟩
theorem K2 (g:GI W s) {K:Type} [DecidableEq K] {knd:PySem.KeyKind W.prog W.w K} {a kvs ep} (e:s.heap.DictAt knd a kvs ep):(fz W s.heap []).DictAt knd a kvs ep:=fK e λo' e'=>Kw g e' λvs q=>by
 obtain ⟨o1,es,e1,_,e2,_⟩:=e
 cases Option.some.inj (e1.symm.trans e')
 ctx_has e2 q
theorem Data.untab (g:GI W s) {v d} (x:Data W s.heap v d):Data W (fz W s.heap []) v d:=
 Data.rec (motive_1:=λv d U=>Data W (fz W s.heap []) v d) (motive_2:=λvs ds U=>ae W (fz W s.heap []) vs ds) .none .bool .int .str (λe n U a=> .list (Kw g e λvs q=>by w_cond q) n a) (λe n U a=> .tuple (Kw g e λvs q=>by w_cond q) n a) (λe n m U o q a=> .dS (K2 g e) n m a o q) (λe n m U q a=> .dI (K2 g e) n m a q) .nil (λU U a b=> .cons a b) x
theorem ae.untab (g:GI W s) {vs ds} (x:ae W s.heap vs ds):ae W (fz W s.heap []) vs ds:=ae.ind .nil (λa U ih=> .cons (a.untab g) ih) x
theorem eG.untab (g:GI W s) {c v d} (x:eG W s.heap c v d):eG W (fz W s.heap []) c v d:=by
 obtain ⟨a,dA,v',o,e,h0,h1,h2,h3,h4,h5,q1,q2,h6⟩:=x
 obtain ⟨oo,ho,hd⟩:=aI h4.ns
 have ha:a∉W.T:=λq=>by
  obtain ⟨ps,e'⟩:=g.tab.fields q
  rw [h0] at e';w_cond e';w_cond h1
 exact ⟨a,dA,v',o,e,bx.mpr ⟨h0,ha,by simp⟩,h1,h2,h3,h4.at λo' e'=>bx.mpr ⟨e',(by rw [ho] at e';w_cond e';exact g.notin ho hd),by simp⟩,h5,q1,q2,h6.untab g⟩
noncomputable def Dl (scope:Scope):FC:=⟨scope.names,[],none,_,rfl⟩
noncomputable def Lr:SV->SV
 | .fn _=> .u
 | .ptr _ _=> .u
 | sv=>sv
noncomputable def HO (fc:FC) (names:List (Str×NameKind)) (st:List SV):List SV:=names.map λ(x,k)=>if k== .free then Lr (sV fc st x) else .u
noncomputable def qz (fc:FC) (scope:Scope) (ix:List Nat) (fb:List SV->Option SV) (st:List SV) (ds:List PV):Option PV:=(aY (Dl scope) ix (ds.map .d) (HO fc scope.names st)).bind λst'=>de fb st'
noncomputable def BI (fc:FC) (scope:Scope):Bool:=mO fc scope&&scope.names.all (λp=>p.2 != .cell)
theorem EJ {scope params body qual pm cdv ctv f} {pnames:List Str} {ix fb k} (x:aR W fc env κ B ω st s m cm) (hck:BI fc scope=true) (hco:scope.isCoroutine=false) (hgen:scope.isGenerator=false) (hbind:∀ (cl:List (Str×Addr)) (pm cdv ctv:Value) (qual:Str) (vs:List Value),vs.length=pnames.length->bindArgs (kla_fn "<lambda>" qual params body scope cl pm cdv ctv) ⟨vs,[]⟩=pure (pnames.zip vs)) (hix:b5 (Dl scope) pnames ix=true) (hb:SE W k (Dl scope) body fb) (hk:k<=7) (ho:s.heap.get? f=some { cls:= .type "function",data:= .func (kla_fn "<lambda>" qual params body scope (dM env.cells scope.names []) pm cdv ctv) }) (hf:f∉bw B ω) (hcd:s.heap.CodeRec cdv qual) (hcf:∀ c,cdv= .ref c->c∉bw B ω/\c∉W.T):
  mL W (fz W s.heap (bw B ω)) (.ref f) (qz fc scope ix fb st):=by
 refine ⟨⟨f,_,_,rfl,bx.mpr ⟨ho,x.gi.notin ho (λvs q=>by w_cond q),hf⟩,rfl⟩,?_⟩
 intro A s2 args ds r hA g2 sub hargs h hfl
 simp only [BI,Bool.and_eq_true,List.all_eq_true] at hck
 obtain ⟨hck,hnc⟩:=hck
 haveI hck':=hck
 simp only [mO,Bool.and_eq_true,beq_iff_eq,decide_eq_true_eq,List.all_eq_true] at hck'
 obtain ⟨⟨hkind,hnd⟩,_⟩:=hck'
 haveI hfr:∀ y,(y,NameKind.free)∈scope.names->∃ c,env.cells.lookup y=some c:=λy hy=>by
  obtain ⟨i,k,h3,h4,_⟩:=eD hck hy x.nd
  exact x.has i y k h3 h4
 have mem_cl:∀ y c,(dM env.cells scope.names []).lookup y=some c->env.cells.lookup y=some c:=λy c h=>by
  rcases pR env.cells scope.names [] hfr _ (mem_of_lookup h) with q | q
  ·w_cond q
  ·exact q.1
 have inF:∀ (b:Addr) (o:Obj),b∉W.T->b∉bw B ω->s.heap.get? b=some o->s2.heap.get? b=some o:=λb o n1 n2 e=>sub _ _ (bx.mpr ⟨e,n1,n2⟩)
 obtain ⟨st',h1,h2⟩:=ah h
 have hlen:args.length=pnames.length:=by
  erw [hargs.length,fZ _ _ hix,<-gm _ _ _ _ h1,fJ]
 haveI ho2:=inF f _ (x.gi.notin ho λvs q=>by w_cond q) hf ho
 haveI hcd2:s2.heap.CodeRec cdv qual:=by
  obtain ⟨c,o,vs,t,e1,e2,e3,e4⟩:=hcd
  exact ⟨c,o,vs,t,e1,inF c o (hcf c e1).2 (hcf c e1).1 e2,e3,e4⟩
 refine kla_callFunE hA.room ho2 rfl hco hgen rfl hcd2 ?_
 erw [hbind _ _ _ _ _ _ hlen]
 refine wpAny_pure ?_
 have hL:s2.heap.get? s2.heap.objs.size=none:=aK _
 have hcells:∀ y c,(dM env.cells scope.names []).lookup y=some c->s2.heap.IsCell c (cm y):=λy c h=>by
  have h':=mem_cl y c h
  obtain ⟨o,e,hd⟩:=x.cells y c h'
  exact ⟨o,inF c o (x.gi.notin e λvs q=>by ctx_has hd q) (λq=>(aw q).elim (x.cν y c h') (x.cω y c h')) e,hd⟩
 obtain ⟨κ',x2,hκ'⟩:=k8 (fc:=Dl scope) (env:=newEnv scope s2.heap.objs.size mainGlobals (cellsFrom (s2.heap.objs.size+1) scope.names []++dM env.cells scope.names []) (qual++".<locals>.") (some f) cdv none builtinsNs) (μ:=[]) (ν:=[]) (s:=s2) "frame" scope.names (dM env.cells scope.names []) cm s2.toks (HO fc scope.names st) g2 (by intro b hb;w_cond hb) (by intro b hb;w_cond hb) (by intro b hb;w_cond hb)
  ⟨hkind,rfl,rfl,rfl,λt h=>by w_cond h⟩ rfl rfl (λy c h=>⟨hcells y c h,by simp⟩) (λy z c h h'=>x.inj y z c (mem_cl y c h) (mem_cl z c h')) (λy hy=>by w_cond hy)
  (λy kk hx hkk=>by
   rcases hkk with rfl | rfl
   ·have:=hnc _ hx;simp at this
   ·obtain ⟨c,hc⟩:=gP env.cells scope.names [] y hx
    exact .inr (bh hc))
  hnd hnd (by simp [HO,Dl]) (λi sv h=>by
   unfold HO at h
   rw [gY] at h
   obtain ⟨⟨y,kk⟩,h5,h6⟩:=(aA h:_)
   by_cases hfk:(kk==NameKind.free)=true
   ·simp only [hfk,if_true] at h6
    haveI hkf:kk= .free:=beq_iff_eq.mp hfk
    subst hkf
    cases hs:sV fc st y with
    | u=>rw [hs] at h6;exact .inl h6.symm
    | fn _=>rw [hs] at h6;exact .inl h6.symm
    | ptr _ _=>rw [hs] at h6;exact .inl h6.symm
    | own d=>
     rcases iz hs with q | ⟨i',k',q1,q2,q3⟩
     ·w_cond q
     ·exact absurd rfl (q3 d)
    | d d=>
     rw [hs] at h6;subst h6
     rcases iz hs with q | ⟨i',k',q1,q2,q3⟩
     ·w_cond q
     ·obtain ⟨i2,k2,r1,r2,r3⟩:=eD hck (List.mem_of_getElem? h5) x.nd
      have hk':k'=k2:=r3 i' k' q1
      rcases x.vars i' _ q2 with q | ⟨xk,v,t1,t2,t3,t4⟩
      ·w_cond q
      ·ctx_has q1 t1
       subst hk'
       have hcm:cm y=some v:=by rcases r2 with rfl | rfl <;> exact t3
       obtain ⟨c,hc⟩:=gP env.cells scope.names [] y (List.mem_of_getElem? h5)
       obtain ⟨c',hc'⟩:=bh hc
       refine .inr ⟨y,.free,v,c',h5,.inr rfl,λq=>by have:=hnc _ q;simp at this,hc',hcm,?_,λd q=>by w_cond q⟩
       haveI:Data W (fz W s.heap (bw B ω)) v d:=Data.sub (aG λb hb=>bD.νhid ⟨m,cm,x⟩ b hb) t4
       exact (this.sub sub).untab g2
    | obj c d=>
     rw [hs] at h6;subst h6
     rcases iz hs with q | ⟨i',k',q1,q2,q3⟩
     ·w_cond q
     ·obtain ⟨i2,k2,r1,r2,r3⟩:=eD hck (List.mem_of_getElem? h5) x.nd
      have hk':k'=k2:=r3 i' k' q1
      rcases x.vars i' _ q2 with q | ⟨xk,v,t1,t2,t3,t4⟩
      ·w_cond q
      ·erw [q1] at t1;w_cond t1
       subst hk'
       have hcm:cm y=some v:=by rcases r2 with rfl | rfl <;> exact t3
       obtain ⟨cc,hc⟩:=gP env.cells scope.names [] y (List.mem_of_getElem? h5)
       obtain ⟨c',hc'⟩:=bh hc
       refine .inr ⟨y,.free,v,c',h5,.inr rfl,λq=>by have:=hnc _ q;simp at this,hc',hcm,?_,λd q=>by w_cond q⟩
       haveI:eG W (fz W s.heap (bw B ω)) c v d:=eG.sub t4 (aG λb hb=>bD.νhid ⟨m,cm,x⟩ b hb)
       exact (this.sub sub).untab g2
   ·simp only [hfk,Bool.false_eq_true,if_false] at h6
    exact .inl h6.symm)
 have subn:=d8 s2 "frame" scope.names
 have hfr2:∀ b∈κ'++[s2.heap.objs.size],s2.heap.get? b=none:=λb hb=>by
  rcases aw hb with q | q
  ·exact hκ' b q
  ·erw [aE q];exact hL
 refine ma (wpAny_mono (gC (A:=A.in1) g2 pnames ix args (ds.map .d) _ st' _ hix hlen x2 (aS.of_data (hargs.untab g2)) (Kp.of_sub subn) hfr2 h1 _) (λU s3 w=>?_) λU U q=>q.elim)
 obtain ⟨x3,g3⟩:=w
 refine ⟨x3.gi.ok.nolimit.keeps x3.gi.top,kla_codeExpr ?_⟩
 refine wpAny_mono (hb (A.deeper _) _ κ' ⟨[],[]⟩ [s2.heap.objs.size] st' s3 _ ((cf.deeper (n:=7) hA _).le hk) x3 (aT h2)) (λv s4 y=>?_) λU U q=>q.elim
 have g02:bR W κ' [s2.heap.objs.size] s2 s4:=(bR.of_gr (Gr.of_sub subn)).trans (λb hb=> .inl hb) (g3.trans (λb hb=> .inl hb) (bR.of_gr y.2))
 exact ⟨v,rfl,Data.sub (av _ _ _) y.1,λb o n e=>g02.kp b o (λq=>(aw q).elim n λq=>by erw [hfr2 b q] at e;w_cond e) e,λU=>y.2.gi x3.gi,g02.gens,g02.os,g02.dom⟩
theorem fL {params body scope pos} {pnames:List Str} {ix fb k} (t) (ht:fc.lam=some t) (htW:t∈W.tabs) (hck:BI fc scope=true) (hco:scope.isCoroutine=false) (hgen:scope.isGenerator=false) (hdef:∀ env,defaultsOf params env=([],[])) (hbind:∀ (cl:List (Str×Addr)) (pm cdv ctv:Value) (qual:Str) (vs:List Value),vs.length=pnames.length->bindArgs (kla_fn "<lambda>" qual params body scope cl pm cdv ctv) ⟨vs,[]⟩=pure (pnames.zip vs)) (hix:b5 (Dl scope) pnames ix=true) (hb:SE W k (Dl scope) body fb) (hk:k<=7):
  SE W n fc (.Lambda params body scope pos) (λst=>some (.fn (qz fc scope ix fb st))):=by
 intro A env κ B ω st s sv hA x h
 w_cond h
 obtain ⟨m,cm,xc⟩:=id x
 obtain ⟨hcode,hqual⟩:=xc.eo.lam t ht
 have hck':=hck
 simp only [BI,Bool.and_eq_true] at hck'
 have hfr:∀ y,(y,NameKind.free)∈scope.names->∃ c,env.cells.lookup y=some c:=λy hy=>by
  obtain ⟨i,k,h3,h4,_⟩:=eD hck'.1 hy xc.nd
  exact xc.has i y k h3 h4
 have hcl:=iK scope env hfr
 obtain ⟨ps,hic,hta,hre⟩:=xc.gi.tab t htW
 have hPT:t.2.1∈W.T:=List.mem_map.mpr ⟨t,htW,rfl⟩
 have hP:=eE hta
 have hC:=CodeHd.of hic hta
 have htr:TriplesOk ps.toList:=by
  obtain ⟨o,vs,file,tf,flags,tg,inF,text,tt,op,d1,r1,r2,r3,r4,r5,r6,d2,d3,d4,d5⟩:=hic
  rw [hP] at d2;w_cond d2;w_cond d3;exact d4
 have hmain:s.heap.Ns mainGlobals W.mg:=xc.gi.ok.main.keeps xc.gi.top
 have hgP:mainGlobals≠t.2.1:=λq=>by
  obtain ⟨o,e,hd⟩:=aI hmain
  erw [q,hP] at e;w_cond e;exact hd _ rfl
 have hbt:s.heap.BuiltinsAt W.mg t.2.1:=by
  obtain ⟨bm,ob,e1,e2,e3,e4,e5,e6⟩:=xc.gi.ok.bmod
  refine ⟨bm,ob,e1,e2,λq=>?_,λq=>?_,xc.gi.top _ _ e3,e4,e5,e6⟩
  ·obtain ⟨o,es,ep,e,hd,_⟩:=hmain
   erw [<-q,xc.gi.top _ _ e3] at e;w_cond e;erw [e6] at hd;w_cond hd
  ·have:=xc.gi.top _ _ e3
   erw [q,hP] at this;w_cond this;w_cond e6
 refine kla_eval (hdef env) ?_
 have fin:∀ (h':Heap) (tk:Tok) (cdv ctv:Value),Gr W s { s with heap:=h',toks:=tk }->s.heap.objs.size<=h'.objs.size->h'.CodeRec cdv t.2.2->(∀ c,cdv= .ref c->c∉bw B ω/\c∉W.T)->
   dm W (h'.push { cls:= .type "function",data:= .func (kla_fn "<lambda>" (env.qual++"<lambda>") params body scope (dM env.cells scope.names []) ((W.mg "__name__").getD .none) cdv ctv) }) (aq B κ ω) (bw B ω) (.ref h'.objs.size) (.fn (qz fc scope ix fb st))/\
    Gr W s { s with heap:=h'.push { cls:= .type "function",data:= .func (kla_fn "<lambda>" (env.qual++"<lambda>") params body scope (dM env.cells scope.names []) ((W.mg "__name__").getD .none) cdv ctv) },toks:=tk }:=by
  intro h' tk cdv ctv g hsz hcd hcf
  have g2:Gr W s { s with heap:=h'.push { cls:= .type "function",data:= .func (kla_fn "<lambda>" (env.qual++"<lambda>") params body scope (dM env.cells scope.names []) ((W.mg "__name__").getD .none) cdv ctv) },toks:=tk }:=g.trans (Gr.push (s:={ s with heap:=h',toks:=tk }) _)
  refine ⟨?_,g2⟩
  have x2:=xc.gr g2
  refine EJ (k:=k) (s:={ s with heap:=h'.push { cls:= .type "function",data:= .func (kla_fn "<lambda>" (env.qual++"<lambda>") params body scope (dM env.cells scope.names []) ((W.mg "__name__").getD .none) cdv ctv) },toks:=tk }) x2 hck hco hgen hbind hix hb hk (Heap.get?_push_size _ rfl) (λq=>?_) ((hqual ▸ hcd:h'.CodeRec cdv (env.qual++"<lambda>")).push _) hcf
  have hfs:s.heap.get? h'.objs.size=none:=Heap.get?_none_of_le hsz
  obtain ⟨o,e⟩:=xc.ex _ (bD.νhid x _ q)
  rw [hfs] at e;w_cond e
 cases hca:codeAmong pos ps.toList with
 | some cv=>
  refine kla_makeFunctionHit hcl xc.eo.globals hmain hcode hC hP htr hca hbt λctv h' tk hk hsz=>fin h' tk cv ctv (Gr.of_sub hk) hsz ((hre pos cv hca).keeps hk) λc q=>?_
  have hq:=hre pos cv hca
  obtain ⟨c0,o,vs,tok,e1,e2,e3,e4⟩:=hq
  erw [e1] at q;w_cond q
  exact ⟨λq=>xc.nc _ q o e2 vs _ _ e3 e4,λq=>dw xc.gi q e2 vs _ _ e3 e4⟩
 | none=>
  refine kla_makeFunction hcl xc.eo.globals hmain hcode hC hP htr hca hgP hbt λc' ctv h' tk hx hle hlt hcd hP'=>?_
  have hcd':h'.CodeRec (.ref c') t.2.2:=hqual ▸ hcd
  have hs':s.heap.objs.size<=h'.objs.size:=Nat.le_of_lt (Nat.lt_of_le_of_lt hle hlt)
  have hcn:s.heap.get? c'=none:=Heap.get?_none_of_le hle
  refine fin h' tk (.ref c') ctv ⟨λb o n e=>hx b o (λq=>n (q ▸ hPT)) e,λg=>g.grow htW hic hta hre hx hP' hcd',λU U e=>e,rfl,λb e=>?_⟩ hs' hcd' λc q=>?_
  ·by_cases q:b=t.2.1
   ·erw [q,hP'] at e;w_cond e
   ·cases e':s.heap.get? b with
    | none=>rfl
    | some o=>rw [hx b o q e'] at e;w_cond e
  ·w_cond q
   refine ⟨λq=>?_,xc.gi.fresh hcn⟩
   obtain ⟨o,e⟩:=xc.ex _ (bD.νhid x _ q)
   rw [hcn] at e;w_cond e
structure td (W:Wd) (c:Cl) (N:Addr) (mN:Str->Option Value):Prop where
 cls:ClsAt W.G c.cls N mN
 ng:mN "__getattribute__"=none
 nh:mN "__getattr__"=none
 ns:mN "__setattr__"=none
 na:mN c.attr=none
 hB:typeLookup (.type "object") c.attr=pure none
theorem aR.fr (x:aR W fc env κ B ω st s m cm):Fr W.G env.locals s.heap m:=by
 exact ⟨x.ns,x.gi.top,x.hL⟩
theorem qI {μ c v d} (hL:env.locals∈μ) (h:eG W (fz W s.heap μ) c v d):
  ∃ a dA v',v= .ref a/\InstAt W.G env.locals s.heap a dA c.cls (λx=>if x=c.attr then some v' else none)/\Data W (fz W s.heap μ) v' d:=by
 obtain ⟨a,dA,v',o,e,h0,h1,h2,h3,h4,h5,q1,q2,h6⟩:=h
 have na:a≠env.locals:=λq=>(bx.mp h0).2.2 (q ▸ hL)
 obtain ⟨od,hod,_⟩:=aI h4.ns
 have nd:dA≠env.locals:=λq=>(bx.mp hod).2.2 (q ▸ hL)
 exact ⟨a,dA,v',e,⟨⟨o,(bx.mp h0).1,h1,h2,h3⟩,h4.keeps (av _ _ _),h5,na,nd,q1,q2⟩,h6⟩
theorem DJ {c N mN y attr p pos} (i) (K:td W c N mN) (hy:bv fc y i=true) (ha:attr=c.attr) (hout:∀ (v:Value) (d:PV) (F:Heap),d.flat=false->Data W F v d->handedOut v=pure v:=by intro v d F h x;cases x <;> first | rfl | w_cond h):
  SE W n fc (.Attribute (.Name y p) attr pos) (λst=>(qF c (rd st i)).bind λd=>if d.flat=false then some (.d d) else none):=by
 intro A env κ B ω st s sv hA x h
 obtain ⟨d,hr,h⟩:=ah h
 ·obtain ⟨hc,h⟩:=bI h
  ·w_cond h
   obtain ⟨v,hv,ld⟩:=cJ x hy (qG hr)
   obtain ⟨m,cm,xc⟩:=x
   refine Attribute_name (wpAny_Name (ld _ _ _ _ ?_) (cM hy))
   obtain ⟨a,dA,v',rfl,I,hd⟩:=qI (env:=env) (lR _ (lR _ xc.lω)) hv
   subst ha
   exact getattr_I (l:=[(a,dA,c.cls,λx=>if x=c.attr then some v' else none)]) xc.fr (λp hp=>by erw [aE hp];exact I) (.head _) K.cls ⟨hd,Gr.tok _⟩ (by simp) (hout v' d _ hc hd) K.ng K.na K.hB
theorem AA {c N mN y name p apos pos e es f of fd yy fa} {fop:PV->List PV->Option PV} (i k) (K:td W c N mN) (hy:bv fc y i=true) (hne:name≠c.attr) (hf:mN name=some (.ref f)) (hfo:W.G.get? f=some of) (hfc:of.cls= .type "function") (hfd:of.data= .func fd) (hB:typeLookup (.type "object") name=pure yy) (hop:∀ (A:Around) (s:Shared) (μ ν:List Addr) (v:Value) (d:PV) (vs:List Value) (ds:List PV) (r:PV),cf k A->GI W s->Ex s μ->eG W (fz W s.heap μ) c v d->ae W (fz W s.heap μ) vs ds->fop d ds=some r->wpAny W.M A (call (.ref f) (v::vs)) (PD W μ s r) (λU U=>False) s) (ha:gb W n fc (e::es) fa) (hk:k<=n) (hbase:∀ env,attributeBase (.Name y p) name env (eval (.Name y p) env)=eval (.Name y p) env:=by w_left) (hfew:∀ env,((backTo pos (starEach (e::es) env)).all (λx=>!x.1)&&(backToKw pos (keywordEach [] env)).all (λx=>x.1.isSome)&&decide ((e::es).length + ([]:List Keyword).length + (if ([]:List Keyword).isEmpty then 0 else 1)<30))=true:=by w_left) (hline:(apos.endLine==pos.line)=true:=by rfl) (he:∀ env,starEach (e::es) env=(false,eval e env)::starEach es env:=by w_left):
  SE W n fc (.Call (.Attribute (.Name y p) name apos) (e::es) [] pos) (λst=>(qF c (rd st i)).bind λd=>(fa st).bind λds=>(fop d ds).map .d):=by
 intro A env κ B ω st s sv hA x h
 obtain ⟨d,hr,h⟩:=ah h
 ··obtain ⟨ds,q1,h⟩:=ah h
   obtain ⟨r,q2,rfl⟩:=(aA h:_)
   obtain ⟨v,hv,ld⟩:=cJ x hy (qG hr)
   rw [arm_eval_Call,hbase]
   refine wpAny_bind (wpAny_Name (ld _ _ _ _ ?_) (cM hy))
   obtain ⟨m,cm,xc⟩:=id x
   obtain ⟨a,dA,v',rfl,I,hd⟩:=qI (env:=env) (lR _ (lR _ xc.lω)) hv
   refine wpAny_bind (wpAny_standAt ?_)
   have hform:methodCallForm ((e::es).length + ([]:List Keyword).length) (backTo pos (starEach (e::es) env)) (backToKw pos (keywordEach [] env))=true:=hfew env
   have hpos:methodCallPos true (.Name y p) env apos pos=pure pos:=by unfold methodCallPos;simp [hline]
   unfold methodCall
   erw [hform]
   refine wpAny_bind (wpAny_holding (getMethod_I xc.fr I.inst K.cls hf hfo hfc K.ng K.nh (by simp [hne]) hB ?_))
   refine wpAny_bind (wpAny_of_eq hpos ?_)
   refine callWith_meth (h₀:=W.G) hfd hfo (wpAny_mono (ha A env κ B ω st s ds pos hA x q1) (λvs s₁ z=>?_) λU U q=>q) (he env)
   have x₁:=x.gr z.2
   refine ⟨x₁.gi.top,wpAny_mono (hop A s₁ (aq B κ ω) (bw B ω) (.ref a) d vs ds r (hA.le hk) x₁.gi x₁.ex (eG.sub hv (bo _ z.2.kp)) z.1 q2) (λw s₂ u=>⟨u.1,z.2.trans u.2⟩) λU U q=>q⟩
theorem F8 {c N fI mN oI fd y self par p pos pa ps ptt pss e fe} (K:td W c N mN) (hg:cG W fc y c.cls) (hi:mN "__init__"=some (.ref fI)) (hI:W.G.get? fI=some oI) (hfc:oI.cls= .type "function") (hfd:oI.data= .func fd) (hcd:W.G.CodeRec fd.code fd.qualname) (hbody:fd.body= .stmts [.Assign [.Attribute (.Name self ps) c.attr pa] (.Name par ptt) pss]) (hbind:∀ v x,bindArgs fd ⟨[x,v],[]⟩=pure [(self,x),(par,v)]) (hkind:fd.scope.kind= .function) (hco:fd.scope.isCoroutine=false) (hgen:fd.scope.isGenerator=false) (hcell:∀ x∈fd.scope.names,x.2≠ .cell) (hls:fd.scope.names.lookup self=some .local) (hlp:fd.scope.names.lookup par=some .local) (hsp:self≠par) (hds:(self==("__debug__":Str))=false) (hdp:(par==("__debug__":Str))=false) (he:SE W n fc e fe) (hst:∀ env,starEach [e] env=(false,eval e env)::starEach [] env:=by w_left):
  SE W n fc (.Call (.Name y p) [e] [] pos) (λst=>(de fe st).map (.obj c)):=by
 intro A env κ B ω st s sv hA x h
 obtain ⟨d,h1,rfl⟩:=(aA h:_)
 refine wpAny_Call_Name_kw (fh hg.1 hg.2.2 hg.2.1 x ?_)
 refine callWith_cls (h₀:=W.G) K.cls (wpAny_items_cons (wpAny_mono (he A env κ B ω st s _ hA x (aT h1)) (λv s₁ z=>wpAny_items_nil ?_) λU U q=>q) (hst env)) (hst env) rfl
 have x₁:=x.gr z.2
 refine ⟨x₁.gi.top,?_⟩
 obtain ⟨nm,q,bs,sn,sub,col,dd,k0,k1,k2,k3,k5,hC⟩:=(K.cls.keeps x₁.gi.top).obj
 obtain ⟨hh,gg,dr,t,os⟩:=s₁
 refine wpAny_call_obj_init PySem.F.objNew hC (K.cls.keeps x₁.gi.top).ns hi (x₁.gi.top _ _ hI) hfc λh' xx dx Mk=>?_
 have kk:∀ b o,W.G.get? b=some o->h'.get? b=some o:=λb o e=>Mk.keeps _ _ (x₁.gi.top b o e)
 have hroom:(A.under (.builtin "type.__call__" ⟨.ref c.cls::[v],[]⟩)).depth<recursionLimit:=by
  have:=hA.2.1
  show A.depth + _<_
  have hw:(Code.builtin "type.__call__" ⟨.ref c.cls::[v],[]⟩).weight<=8:=by
   first
    | exact (show (Code.builtin "type.__call__" ⟨.ref c.cls::[v],[]⟩).weight=0 from rfl) ▸ Nat.zero_le _
    | exact Nat.le_trans (Nat.le_of_eq (show (Code.builtin "type.__call__" ⟨.ref c.cls::[v],[]⟩).weight=1 from rfl)) (by decide)
    | exact Nat.le_trans (Nat.le_of_eq (show (Code.builtin "type.__call__" ⟨.ref c.cls::[v],[]⟩).weight=2 from rfl)) (by decide)
  unfold recursionLimit;w_fin
 refine wpAny_call (codeAny_call_def (fd:=fd) (binds:=[(self,.ref xx),(par,v)]) hroom (kk _ _ hI) hfd (x₁.gi.ok.nolimit.keeps kk) (hcd.keeps kk) hbody (.of_eq (hbind v (.ref xx))) hcell (λy hy=>?_) (λh₁ hns hk₁=>?_) hco hgen hkind)
 ·rcases aX hy with rfl | hy
  ·exact hls
  ·erw [aE hy];exact hlp
 ·-- the body
  have E1:∀ (k:Str),(callEnv fd h'.objs.size fI).kindOf k=fd.scope.names.lookup k:=λk=>rfl
  have x0:=x₁.gi
  have hsub:bF hh h₁:=λb o e=>hk₁ _ _ (Mk.keeps _ _ e)
  obtain ⟨ox,hx,hcx,hncx,hdx⟩:=Mk.inst
  have hdd:=Mk.dict ox hx
  have hnsd:h'.Ns1 dx λU=>none:=by
   rcases hdx with ⟨hn0,_⟩ | ⟨d',hd',_,hns'⟩
   ·rw [hn0] at hdd;w_cond hdd
   ·obtain rfl:=Option.some.inj (hd'.symm.trans hdd);exact hns'
  have hne:dx≠xx:=by
   rcases hdx with ⟨hn0,_⟩ | ⟨d',hd',hne',_⟩
   ·rw [hn0] at hdd;w_cond hdd
   ·obtain rfl:=Option.some.inj (hd'.symm.trans hdd);exact hne'
  have F₁:Fr hh h'.objs.size h₁ (λy=>[(self,Value.ref xx),(par,v)].reverse.lookup y):=⟨hns,hsub,Mk.grows⟩
  have I₁:Insts hh h'.objs.size h₁ [(xx,dx,c.cls,λU=>none)]:=by
   intro p hp
   obtain rfl:=aE hp
   exact ⟨⟨ox,hk₁ _ _ hx,hcx,hdd,hncx⟩,hnsd.keeps hk₁,hne,Nat.ne_of_lt (Heap.lt_size hx),Nat.ne_of_lt hnsd.lt,Mk.newX,Mk.newD⟩
  have lp:[(self,Value.ref xx),(par,v)].reverse.lookup par=some v:=by simp
  have ls:[(self,Value.ref xx),(par,v)].reverse.lookup self=some (.ref xx):=by
   have:(self==par)=false:=by simpa using hsp
   simp [List.lookup_cons,this]
  refine wpAny_execs_cons (plainObj_wpAny_Assign_Attribute (wpAny_Name (wpAny_loadName_local hkind ((E1 par).trans hlp) hns lp (wpAny_Name (wpAny_loadName_local hkind ((E1 self).trans hls) hns ls ?_) hds)) hdp))
  refine setattr_I F₁ I₁ (K.cls.keeps x0.top) (λh2 tk F2 U I2=>?_) K.ns K.na K.hB
  refine wpAny_execs_nil ⟨rfl,?_⟩
  have I3:=I2 _ (.head _)
  have g2:Gr W ⟨hh,gg,dr,t,os⟩ ⟨h2,gg,dr,tk,os⟩:=Gr.of_sub (s:=⟨hh,gg,dr,t,os⟩) F2.keep
  refine ⟨?_,z.2.trans g2⟩
  obtain ⟨o2,q1,q2,q3,q4⟩:=I3.obj
  have hxμ:∀ b,hh.get? b=none->b∉W.T/\b∉aq B κ ω:=λb e=>⟨x0.fresh e,λq=>by obtain ⟨o,e'⟩:=x₁.ex b q;rw [e] at e';w_cond e'⟩
  refine ⟨xx,dx,v,o2,rfl,bx.mpr ⟨q1,(hxμ xx Mk.newX).1,(hxμ xx Mk.newX).2⟩,q2,q3,q4,?_,hne,b6 x0 Mk.newX,b6 x0 Mk.newD,Data.sub (bo _ g2.kp) z.1⟩
  exact I3.ns.at λo e=>bx.mpr ⟨e,(hxμ dx Mk.newD).1,(hxμ dx Mk.newD).2⟩
theorem i8 {y p pos e es fa} (i) (hy:bv fc y i=true) (ha:gb W n fc (e::es) fa) (hn:8<=n) (he:∀ env,starEach (e::es) env=(false,eval e env)::starEach es env:=by w_left):
  SE W n fc (.Call (.Name y p) (e::es) [] pos) (λst=>(Df (rd st i)).bind λf=>(fa st).bind λds=>(f ds).bind λr=>if r.flat then some (.d r) else none):=by
 intro A env κ B ω st s sv hA x h
 obtain ⟨f,hr,h⟩:=ah h
 ·obtain ⟨ds,h1,h⟩:=ah h
  obtain ⟨r,h2,h⟩:=ah h
  obtain ⟨hfl,h⟩:=bI h
  ·w_cond h
   obtain ⟨v,hv,ld⟩:=cJ x hy (oP hr)
   obtain ⟨⟨a,o,fd,rfl,ho,hd⟩,hf⟩:=id (show mL W (fz W s.heap (bw B ω)) v f from hv)
   refine wpAny_Call_Name_kw (wpAny_Name (ld _ _ _ _ ?_) (cM hy))
   refine callWith_def (o:=o) hd (wpAny_mono (ha A env κ B ω st s ds pos hA x h1) (λvs s₁ z=>?_) λU U q=>q) (he env)
   have x₁:=x.gr z.2
   have k1:bF (fz W s.heap (bw B ω)) s₁.heap:=(bo _ z.2.kp).trans (av _ _ _)
   refine ⟨k1 _ _ ho,wpAny_call (codeAny_mono (hf A s₁ vs ds r (hA.le hn) x₁.gi k1 (z.1.sub (av _ _ _)) h2 hfl) λres s₂ w=>?_)⟩
   obtain ⟨rv,rfl,d,g⟩:=w
   exact ⟨Data.flat d hfl _,z.2.trans g⟩
theorem wF {y p pos cp k} (i) (hy:bv fc y i=true):ST W n fc (.Compare (.Name y p) [.Is] [.Constant .none k cp] pos) (λst=>(Df (rd st i)).map λU=>false):=by
 intro A env κ B ω st s b hA x h
 obtain ⟨f,hr,rfl⟩:=(aA h:_)
 ·obtain ⟨v,hv,ld⟩:=cJ x hy (oP hr)
  obtain ⟨⟨a,o,fd,rfl,ho,hd⟩,hf⟩:=id (show mL W (fz W s.heap (bw B ω)) v f from hv)
  refine wpAny_isTrue_Compare1 (wpAny_Name (ld _ _ _ _ ?_) (cM hy)) rfl
  refine wpAny_mono (iO (n:=n) (fc:=fc) (k:=k) (pos:=cp) A env κ B ω st s _ hA x rfl) (λu s₁ z=>?_) λU U e=>e
  obtain ⟨zd,g⟩:=z
  w_cond zd
  exact wpAny_is_plain (show PySem.plainIs (.ref a) .none=true from rfl) (wpAny_truthy_bool ⟨rfl,g⟩)
theorem yW:∀ a b:List Nat,ltCps a b=decide (a<b):=by
 intro zv
 induction zv with
 | nil=>
  intro zw
  cases zw with
  | nil=>
   simp [ltCps]
  | cons _ _=>
   simp [ltCps]
 | cons a r ih=>
  intro zw
  cases zw with
  | nil=>
   simp [ltCps]
  | cons b t=>
   have:(a::r<b::t)↔(a<b∨(a=b/\r<t)):=List.cons_lt_cons_iff
   simp only [ltCps,ih t]
   by_cases h1:a<b <;> by_cases h2:a=b <;> by_cases h3:r<t <;> simp [this,h1,h2,h3]
noncomputable def k6 (a b:List Nat):Bool:=decide (a<=b)
noncomputable def eu (ls:List (List Nat)):List (List Nat):=ls.mergeSort k6
theorem jW (a b c) (h1:k6 a b=true) (h2:k6 b c=true):k6 a c=true:=by
 simp only [k6,decide_eq_true_eq] at *;exact List.le_trans h1 h2
theorem nC (a b):(k6 a b || k6 b a)=true:=by
 simp only [k6,Bool.or_eq_true,decide_eq_true_eq];exact List.le_total a b
theorem vU:∀ (ss:List Str) (p:Str),risingS p ss=true->(∀ x∈ss,k6 p.cps.toList x.cps.toList=true)/\ss.Pairwise (λa b=>k6 a.cps.toList b.cps.toList=true):=by
 intro zv
 induction zv with
 | nil=>exact λp U=>⟨λx h=>(by w_cond h),List.Pairwise.nil⟩
 | cons x r ih=>
  intro p h
  have h':ltCps x.cps.toList p.cps.toList=false/\risingS x r=true:=by
   cases e:ltCps x.cps.toList p.cps.toList with
   | true=>simp [risingS,e] at h
   | false=>simp [risingS,e] at h;exact ⟨rfl,h⟩
  obtain ⟨i1,i2⟩:=ih x h'.2
  have hp:k6 p.cps.toList x.cps.toList=true:=by
   have:=h'.1
   rw [yW] at this
   simp only [decide_eq_false_iff_not] at this
   simp only [k6,decide_eq_true_eq]
   exact List.not_lt.mp this
  refine ⟨λy hy=>?_,List.pairwise_cons.mpr ⟨i1,i2⟩⟩
  rcases aX hy with rfl | hy
  ·exact hp
  ·exact jW _ _ _ hp (i1 y hy)
theorem s7 {ss ls} (hp:ss.Perm (ls.map bM)) (hs:sortedS ss=true):ss=(eu ls).map bM:=by
 have h1:ss.Pairwise (λa b=>k6 a.cps.toList b.cps.toList=true):=by
  cases ss with
  | nil=>exact .nil
  | cons x r=>
   obtain ⟨i1,i2⟩:=vU r x hs
   exact List.pairwise_cons.mpr ⟨i1,i2⟩
 have h2:((eu ls).map bM).Pairwise (λa b=>k6 a.cps.toList b.cps.toList=true):=by
  rw [List.pairwise_map]
  have:=List.pairwise_mergeSort (le:=k6) jW nC ls
  exact this.imp λh=>by simpa using h
 have h3:ss.Perm ((eu ls).map bM):=hp.trans ((List.mergeSort_perm ls k6).symm.map bM)
 refine h3.eq_of_pairwise (λa b U U q1 q2=>?_) h1 h2
 simp only [k6,decide_eq_true_eq] at q1 q2
 have:=List.le_antisymm q1 q2
 obtain ⟨⟨a⟩⟩:=a
 obtain ⟨⟨b⟩⟩:=b
 simp at this
 subst this;rfl
noncomputable def zz (ds:List PV):Option PV:=(y9 ds).bind λd=>(pA d).bind λxs=>(jF xs).bind λls=>if ls.length<64 then some (.list ((eu ls).map .str)) else none
theorem z7 {F}:∀ (vs:List Value) (xs:List PV) (ls:List (List Nat)),ae W F vs xs->jF xs=some ls->StrsAre vs (ls.map bM)/\xs=ls.map .str/\∀ l∈ls,l.length<=be:=by
 intro vs xs
 induction xs generalizing vs with
 | nil=>intro ls hd h;w_cond h;w_cond hd;exact ⟨.nil,rfl,λl h=>(by w_cond h)⟩
 | cons x xs ih=>
  intro ls hd h
  obtain ⟨v,us,rfl,d1,d2⟩:=hd.cons_inv
  cases x <;> try w_cond h
  obtain ⟨ls',h1,rfl⟩:=(aA h:_)
  obtain ⟨i1,i2,i3⟩:=ih us ls' d2 h1
  cases d1 using Data.strE with | mk t hn=>
  refine ⟨.cons _ _ i1,by erw [i2];rfl,λl hl=>?_⟩
  rcases aX hl with rfl | hl
  ·exact hn
  ·exact i3 l hl
theorem wa {F}:∀ (vs:List Value) (ls:List (List Nat)),StrsAre vs (ls.map bM)->(∀ l∈ls,l.length<=be)->ae W F vs (ls.map .str):=by
 intro vs ls
 induction ls generalizing vs with
 | nil=>intro h _;w_cond h;exact .nil
 | cons l ls ih=>
  intro h hl
  cases h with | cons _ t r=>exact .cons (.str _ _ (hl l (.head _))) (ih _ r λx hx=>hl x (.tail _ hx))
set_option tactic.hygienic true in
theorem ze:Gf W 2 (λvs=>call (.builtin "sorted") vs) zz:=by
 intro A s μ vs ds r hA g ex hv h
 obtain ⟨d,e1,h⟩:=ah h
 obtain ⟨xs,e2,h⟩:=ah h
 obtain ⟨ls,h1,h2⟩:=(ah h:_)
 obtain rfl:=ez e1
 obtain rfl:=cO e2
 split at h2
 ·rename_i h64
  w_cond h2
  obtain ⟨v,rfl,d⟩:=hv.one
  cases d using Data.listE with | mk a us ep e n1 b=>
  obtain ⟨i1,i2,i3⟩:=z7 us xs ls b h1
  have hul:us.length=ls.length:=by erw [b.length,i2,fJ]
  refine sorted_strs (vs:=us) ⟨_,av _ _ _ _ _ e,rfl,_,rfl⟩ i1 (by w_fin) λout ss' q1 q2 q3=>?_
  have hss:=s7 q2 q3
  subst hss
  obtain ⟨e2,he2⟩:=sortedAll_at s.heap us out
  have k:bF s.heap (sortedAll s.heap us out):=λb o e=>sortedAll_old e
  have hn:s.heap.get? (s.heap.objs.size+1)=none:=Heap.get?_none_of_le (Nat.le_succ _)
  have hsl:∀ l∈eu ls,l.length<=be:=λl hl=>i3 l ((List.mergeSort_perm ls k6).mem_iff.mp hl)
  have d2:=wa (F:=fz W (sortedAll s.heap us out) ((s.heap.objs.size+1)::μ)) out.toList (eu ls) q1 hsl
  refine ⟨⟨_,rfl,hn,.list (vs:=out.toList) (by simpa using he2) ?_ d2⟩,Gr.of_sub k⟩
  erw [d2.length,fJ]
  have:=(List.mergeSort_perm ls k6).length_eq
  unfold eu;w_fin
 ·w_cond h2
noncomputable def gX (xs:List PV) (k:Nat) (x:PV):List PV:=xs.take k++x::xs.drop k
set_option maxRecDepth 100000 in
/-- a.insert(lo,x) on a list whose ba is known,sV from outside -/
theorem yp {A ya yl yx pa apos pl px cpos pos ia il ix L xs} {k:Nat} {dx} (x:bD W fc env κ B ω st s) (ha:bv fc ya ia=true) (hl:bv fc yl il=true) (hx:bv fc yx ix=true) (h1:rd st ia=some (.ptr (.ref L) (.list xs))) (h2:rd st il=some (.d (.int k))) {xv} (h3:rd st ix=some (.ptr xv dx)) (hk:k<=xs.length) (hlen:xs.length<be) (hbase:∀ env,attributeBase (.Name ya pa) "insert" env (eval (.Name ya pa) env)=eval (.Name ya pa) env:=by w_left) (hfew:∀ env,((backTo cpos (starEach [.Name yl pl,.Name yx px] env)).all (λx=>!x.1)&&(backToKw cpos (keywordEach [] env)).all (λx=>x.1.isSome)&&decide (([.Name yl pl,.Name yx px]:List Expr).length + ([]:List Keyword).length + (if ([]:List Keyword).isEmpty then 0 else 1)<30))=true:=by w_left) (hline:(apos.endLine==cpos.line)=true:=by rfl):
  wpAny W.M A (exec (.Expr (.Call (.Attribute (.Name ya pa) "insert" apos) [.Name yl pl,.Name yx px] [] cpos) pos) env)
   (λfl s'=>fl= .next/\∃ (h':Heap) (vs:List Value) (ep:Nat),s'={ s with heap:=h' }/\Heap.SameBut L s.heap h'/\s.heap.get? L=some (cj vs.toArray ep)/\(∃ ep',h'.get? L=some (cj (vs.take k++xv::vs.drop k).toArray ep'))/\Data W (fz W s.heap (aq B κ ω)) xv dx) (λU U=>False) s:=by
 obtain ⟨va,hva,lda⟩:=cJ x ha h1
 obtain ⟨vl,hvl,ldl⟩:=cJ x hl h2
 obtain ⟨vx,hvx,ldx⟩:=cJ x hx h3
 obtain ⟨rfl,hL⟩:=hva
 obtain ⟨rfl,hxd⟩:=hvx
 cases  hL with | @list _ vs ep _ e n1 b=>
 have e':=av _ _ _ _ _ e
 have hb:=b.length
 have hvl':Data W (fz W s.heap (aq B κ ω)) vl (.int k):=hvl
 cases hvl' using Data.intE with | mk t=>
 have hk2:(k:Int)<1048576:=by unfold be at hlen;w_fin
 have hfit:Builtin.List.listFitsIndex (k:Int)=true:=fitsIndex_of (Int.natCast_nonneg k) (Int.lt_trans hk2 (by decide))
 have eo:cx fc env:=let ⟨_,_,q⟩:=x;q.eo
 generalize hkk:(k:Int)=kk at hvl hfit hk2 ldl
 refine wpAny_Expr_any (wpAny_Call_method (hbase env) (hfew env) hline F.plainAttrs_list F.slot_list_insert F.type_list_insert (wpAny_Name (lda _ _ _ _ ⟨⟨_,e',rfl⟩,λa q=>(by w_cond q;exact ⟨_,e',rfl⟩),callWith_method1 (wpAny_items_cons (wpAny_Name (ldl _ _ _ _ (wpAny_items_cons (wpAny_Name (ldx _ _ _ _ (wpAny_items_nil ?_)) (cM hx)) rfl)) (cM hl)) rfl) rfl rfl⟩) (cM ha))) (by unfold interactive;erw [eo.kind];rfl) rfl
 have hc0:¬ (!Builtin.List.listFitsIndex kk)=true:=by rw [hfit];simp
 have hs1:vs.toArray.size<=sizeLine:=by rw [List.size_toArray];exact bj n1
 have hmeet:=@AutoSeq1.list_insert_list_int_val_1 L vs.toArray ep kk t vx hc0 hs1
 refine call_meets F.slot_list_insert ⟨_,e',rfl⟩ F.entry_list_insert (F.args_list_insert_3 _ _ _) hmeet ⟨e',?_⟩
 have hm:(Array.extract vs.toArray 0 k).push vx++Array.extract vs.toArray k=(vs.take k++vx::vs.drop k).toArray:=by
  apply Array.ext'
  simp [List.take_of_length_le,List.extract_eq_take_drop]
 obtain ⟨ep',e2⟩:=fY (us:=vs.take k++vx::vs.drop k) e' (λxs=>have k0:=if kk<0 then (kk + (xs.size:Int)).toNat else min kk.toNat xs.size;(xs.extract 0 k0).push vx++xs.extract k0) (by
  have h0:¬ (kk<0):=by w_fin
  have h1:min kk.toNat vs.toArray.size=k:=by rw [List.size_toArray];w_fin
  simp only [h0,if_false,h1]
  exact hm)
 exact ⟨rfl,_,vs,ep,rfl,Heap.SameBut.update ..,e',⟨ep',e2⟩,hxd⟩
theorem kc {y pos} (i) (hv:bv fc y i=true):SE W n fc (.Name y pos) (λst=>(E4 (rd st i)).map λp=> .d p.2):=by
 intro A env κ B ω st s sv hA x h
 obtain ⟨p,hr,rfl⟩:=(aA h:_)
 obtain ⟨v,hvr,hl⟩:=cJ x hv (zD hr)
 exact wpAny_Name (hl _ _ _ _ ⟨hvr.2,Gr.refl _ _⟩) (cM hv)
theorem pQ {k a fd stmt1 ya yl yx pa apos pl px cpos pos names ix f1 ia il ixx} (F:jL W a fd [stmt1,.Expr (.Call (.Attribute (.Name ya pa) "insert" apos) [.Name yl pl,.Name yx px] [] cpos) pos]) (hfc:fd.scope.names=fc.names) (hck:iT fc=true) (hix:b5 fc names ix=true) (hb:SX W k fc stmt1 f1) (hlam:∀ t,fc.lam=some t->fd.code= .ref t.1/\fd.qualname++Str.ofString ".<locals>."++Str.ofString "<lambda>"=t.2.2) (ha:bv fc ya ia=true) (hl:bv fc yl il=true) (hx:bv fc yx ixx=true) (hline:(apos.endLine==cpos.line)=true) {A s μ ν args vs svs st st1 xs} {kk:Nat} {dx L xv} (hbind:∀ (A:Around) (E:Value->Shared->Prop) (Q:List (Str×Value)->Shared->Prop),Q (names.zip vs) s->wpAny W.M A (bindArgs fd args) Q E s) (hlen:vs.length=names.length) (hA:cf (k+1) A) (g:GI W s) (ex:Ex s μ) (hν:∀ b∈ν,b∈μ) (hnr:∀ b∈ν,∀ o,s.heap.get? b=some o->dq o) (hv:aS W s.heap μ ν vs svs) (hE:aY fc ix svs (bc fc)=some st) (h1:f1 st=some (st1,.next)) (r1:rd st1 ia=some (.ptr (.ref L) (.list xs))) (r2:rd st1 il=some (.d (.int kk))) (r3:rd st1 ixx=some (.ptr xv dx)) (hkk:kk<=xs.length) (hlim:xs.length<be) {us:List Value} {ep} (e0:s.heap.get? L=some (cj us.toArray ep)) (hGL:W.G.get? L=none):
  codeAny W.M A (.call (.ref a) args) (λr s'=>r= .ok (.ret .none)/\(∃ ep',s'.heap.get? L=some (cj (us.take kk++xv::us.drop kk).toArray ep'))/\eX W [L] [] s s') s:=by
 refine jQ F hfc hck hix hlam hbind hlen hA g ex hν hnr hv hE λenv κ' s₁ _ hf x₁ g₁ hA₁=>?_
 refine wpAny_execs_cons (wpAny_mono (hb _ env κ' ⟨μ,ν⟩ [env.locals] st s₁ _ hA₁ x₁ h1) (λfl s₂ y=>?_) λU U q=>q.elim)
 obtain ⟨gg,rfl,ω',x₂,_⟩:=y
 refine wpAny_execs_cons (wpAny_mono (yp x₂ ha hl hx r1 r2 r3 hkk hlim (hline:=hline)) (λfl s₃ z=>?_) λU U q=>q.elim)
 obtain ⟨rfl,h',us1,ep1,rfl,hsb,e1,⟨ep',e2⟩,_⟩:=z
 refine wpAny_execs_nil ⟨rfl,?_⟩
 have g02:=g₁.trans (λb hb=> .inl hb) gg
 have keep:=g02.fresh hf
 obtain rfl:=eM e1 (keep L _ (g.notin e0 λvs q=>by w_cond q) e0)
 exact ⟨⟨ep',e2⟩,⟨λb o nb e=>(hsb.2 b λq=>nb (by rw [q];simp)).trans (keep b o (λq=>nb (cY _ q)) e),λU=>x₂.gi.upd e1 (λvs q=>by w_cond q) hGL hsb,λi gg' U e=>g02.gens i gg' e,g02.os,λb nb e=>g02.dom b ((hsb.2 b λq=>nb (by erw [q];exact .head _)).symm.trans e)⟩⟩
end
def SU (W:Wd) (n:Nat) (fc:FC) (e:Expr) (f:List SV->Option (List SV)):Prop:=
 ∀ (A:Around) (env:Env) (κ:List Addr) (B:aN) (ω:List Addr) (st:List SV) (s:Shared) (st':List SV),cf n A->bD W fc env κ B ω st s->f st=some st'->
  wpAny W.M A (eval e env) (PI W fc env κ B ω st' s) (λU U=>False) s
section
variable {n:Nat} {fc fc':FC} {env:Env} {κ:List Addr} {B:aN} {ω:List Addr} {st:List SV} {s s':Shared} {m cm:Str->Option Value} {A:Around}
theorem kT {e} {pos:Pos} {f} (hf:SU W n fc e f) (hs:∀ env,swapsWith e none pos.line env=pure false:=by w_left):SX W n fc (.Expr e pos) (λst=>(f st).map λst'=>(st',.next)):=by
 intro A env κ B ω st s out hA x h
 obtain ⟨sv,h1,h2⟩:=aA h
 (try clear h);subst h2
 obtain ⟨m,cm,y⟩:=x
 exact wpAny_Expr_any (wpAny_mono (hf A env κ B ω st s sv hA ⟨m,cm,y⟩ h1) (λv s₁ z=>bf.of_inv rfl z.2 z.1 λb hb=> .inl hb) λU U q=>q)
  (by unfold interactive;erw [y.eo.kind];rfl) (hs env)
theorem Gi {t b o pos ft fb fo} (ht:ST W n fc t ft) (hb:SU W n fc b fb) (ho:SU W n fc o fo):
  SU W n fc (.IfExp t b o pos) (λst=>(ft st).bind λc=>if c then fb st else fo st):=by
 intro A env κ B ω st s st' hA x h
 obtain ⟨c,h1,h2⟩:=(ah h:_)
 refine wpAny_IfExp (wpAny_mono (ht A env κ B ω st s c hA x h1) (λc' s₁ z=>?_) λU U q=>q)
 (try clear h1);obtain ⟨rfl,g⟩:=z
 haveI x₁:=x.gr g
 cases c' with
 | true=>
  exact wpAny_mono (hb A env κ B ω st s₁ st' hA x₁ h2) (λv s₂ w=>⟨w.1,(bR.of_gr g).trans (λb hb=> .inl hb) w.2⟩) λU U q=>q
 | false=>
  exact wpAny_mono (ho A env κ B ω st s₁ st' hA x₁ h2) (λv s₂ w=>⟨w.1,(bR.of_gr g).trans (λb hb=> .inl hb) w.2⟩) λU U q=>q
theorem aR.grL (x:aR W fc env κ B ω st s m cm) {L} (k:eX W [L] [] s s') (hLω:L∈ω) (hLL:L≠env.locals) (hno:∀ (j:Nat) (d:PV) (xk:Str×NameKind),st[j]? =some (.own d)->fc.names[j]? =some xk->bp m cm xk≠some (.ref L)) (hL':∃ o,s'.heap.get? L=some o/\∀ vs,o.data≠ .fields vs):
  aR W fc env κ B ω st s' m cm/\bR W κ ω s s':=by
 have hL1:L∈aq B κ ω:=lR _ (lR _ hLω)
 have hL2:L∈bw B ω:=lR _ hLω
 obtain ⟨oL',hoL',hdL'⟩:=hL'
 have keep:∀ (b:Addr) (o:Obj),s.heap.get? b=some o->(∀ vs,o.data≠ .fields vs)->b≠L->s'.heap.get? b=some o:=λb o e hd ni=>k.kp b o (λq=>(aw q).elim (x.gi.notin e hd) (λq=>ni (aE q))) e
 have s1:∀ μ,L∈μ->bF (fz W s.heap μ) (fz W s'.heap μ):=λμ h=>ax λb o n1 n2 e=>⟨n2,k.kp b o (λq=>(aw q).elim n1 λq=>n2 ((aE q) ▸ h)) e⟩
 have dom:∀ b,s'.heap.get? b=none->s.heap.get? b=none:=λb e=>by
  by_cases q:b=L
  ·subst q;ctx_has hoL' e
  ·exact k.dom b (λw=>q (aE w)) e
 exact ⟨{ x with
  gi:=k.gi x.gi
  ns:=by
   obtain ⟨o,e,hd⟩:=aI x.ns
   exact x.ns.at' λo' e'=>by rw [e] at e';w_cond e';exact keep _ _ e hd λq=>hLL q.symm
  cells:=λy c1 h=>by
   obtain ⟨o,e,hd⟩:=x.cells y c1 h
   exact ⟨o,keep _ _ e (λvs q=>by ctx_has hd q) (λq=>x.cω y c1 h (q ▸ hLω)),hd⟩
  vars:=λj sv h=>(x.vars j sv h).imp id λ⟨yk,u,p,q,r,t⟩=>⟨yk,u,p,q,r,t.move ⟨s1 _ hL1,s1 _ hL2⟩ λd1 e1 a1 e2 o e3 hd=>keep a1 o e3 hd λe=>by
   subst e1 e2 e
   exact hno j d1 yk h p r⟩
  ex:=λb hb=>by
   obtain ⟨o,e⟩:=x.ex b hb
   cases e':s'.heap.get? b with
   | none=>rw [dom b e'] at e;w_cond e
   | some o=>exact ⟨o,rfl⟩
  nc:=λb hb o e=>by
   by_cases q:b=L
   ·subst q;ctx_has hoL' e;exact .of hdL'
   ·by_cases hT:b∈W.T
    ·exact dw (k.gi x.gi) hT e
    ·obtain ⟨o',e'⟩:=x.ex b (bD.νhid ⟨m,cm,x⟩ b hb)
     have:=k.kp b o' (λw=>(aw w).elim hT λw=>q (aE w)) e'
     ctx_has e this
     exact x.nc b hb o e' },⟨λb o nb e=>k.kp b o (λq=>nb ((aw q).elim (λh=>cY _ h) λh=>by erw [aE h];exact lR _ (lR _ hLω))) e,λi g e=>k.gens i g (by simp) e,k.os,dom⟩⟩
theorem aR.reown (x:aR W fc env κ B ω st s m cm) {i xk L d} (hn:fc.names[i]? =some xk) (hk:kq xk.2=true) (hv:bp m cm xk=some (.ref L)) (hLω:L∈ω) (hLL:L≠env.locals) (hno:∀ (j:Nat) (d:PV) (xk:Str×NameKind),st[j]? =some (.own d)->fc.names[j]? =some xk->bp m cm xk≠some (.ref L)) (c:aB W s.heap (fz W s.heap (aq B κ ω)) L d):
  aR W fc env κ B ω (st.set i (.own d)) s m cm:=
 { x with
  vars:=λj sv h=>by
   rcases aU h with ⟨rfl,rfl⟩ | ⟨hne,h⟩
   ·exact .inr ⟨xk,_,hn,hk,hv,L,rfl,c⟩
   ·exact x.vars j sv h
  apart:=λj l d1 d2 xk1 yk1 a1 e1 e2 e3 e4 e5 e6=>by
   rcases aU e1 with ⟨rfl,q1⟩ | ⟨n1,q1⟩ <;> rcases aU e2 with ⟨rfl,q2⟩ | ⟨n2,q2⟩
   ·rfl
   ·rw [hn] at e3;w_cond e3;rw [hv] at e5;w_cond e5;exact absurd e6 (hno _ _ _ q2 e4)
   ·rw [hn] at e4;w_cond e4;rw [hv] at e6;w_cond e6;exact absurd e5 (hno _ _ _ q1 e3)
   ·exact x.apart j l d1 d2 xk1 yk1 a1 q1 q2 e3 e4 e5 e6
  noL:=λj d1 xk1 a1 e1 e2 e3=>by
   rcases aU e1 with ⟨rfl,q1⟩ | ⟨n1,q1⟩
   ·rw [hn] at e2;w_cond e2;rw [hv] at e3;w_cond e3;exact hLL
   ·exact x.noL j d1 xk1 a1 q1 e2 e3
  oω:=λj d1 xk1 a1 e1 e2 e3=>by
   rcases aU e1 with ⟨rfl,q1⟩ | ⟨n1,q1⟩
   ·rw [hn] at e2;w_cond e2;rw [hv] at e3;w_cond e3;exact hLω
   ·exact x.oω j d1 xk1 a1 q1 e2 e3
  len:=by erw [List.length_set];exact x.len }
theorem aR.alone (x:aR W fc env κ B ω st s m cm) {i xk L d} (hi:st[i]? =some (.own d)) (hn:fc.names[i]? =some xk) (hv:bp m cm xk=some (.ref L)):∀ (j:Nat) (d:PV) (xk:Str×NameKind),(st.set i .u)[j]? =some (.own d)->fc.names[j]? =some xk->bp m cm xk≠some (.ref L):=λj d' yk h1 h2 h3=>by
 rcases aU h1 with ⟨rfl,q⟩ | ⟨n,q⟩
 ·w_cond q
 ·exact n (x.apart j i d' d yk xk L q hi h2 hn h3 hv)
theorem xo {μ L xs kk xv dx} {us:List Value} {ep ep'} (k:eX W [L] [] s s') (hL:L∈μ) (hc:aB W s.heap (fz W s.heap μ) L (.list xs)) (hx:Data W (fz W s.heap μ) xv dx) (hlim:xs.length<be) (e:s.heap.get? L=some (cj us.toArray ep)) (e':s'.heap.get? L=some (cj (us.take kk++xv::us.drop kk).toArray ep')):aB W s'.heap (fz W s'.heap μ) L (.list (gX xs kk dx)):=by
 cases hc using aB.listE with | mk vs0 ep0 e0 n0 b0=>
 obtain rfl:=eM e e0
 have mv:bF (fz W s.heap μ) (fz W s'.heap μ):=ax λb o n1 n2 e=>⟨n2,k.kp b o (λq=>(aw q).elim n1 λq=>n2 (by erw [aE q];exact hL)) e⟩
 have b1:=b0.sub mv
 have hb0:=b0.length
 exact .list e' (by simp only [jt,List.length_cons,List.length_take,List.length_drop];w_fin) ((b1.take kk).append (.cons (hx.sub mv) (b1.drop kk)))
noncomputable abbrev wo (L:Addr) (μ:List Addr):List Addr:=μ.filter (λb=>decide (b≠L))
theorem ej {L μ}:∀ b∈wo L μ,b∈μ:=λb hb=>(List.mem_filter.mp hb).1
theorem nZ {L μ}:L∉wo L μ:=λq=>by simpa using (List.mem_filter.mp q).2
theorem Ak {L μ}:∀ b∈μ,b≠L->b∈wo L μ:=λb hb n=>List.mem_filter.mpr ⟨hb,by simpa using n⟩
theorem qt {a:Addr} {fd:FuncData} {stmt1:Stmt} {ya yl yx:Str} {pa apos pl px cpos ipos:Pos} {names:List Str} {ix:List Nat} {f1:List SV->Option (List SV×Fl)} {ia il ixx k i xk L xs args kk xv dx} {us:List Value} {svs st0 st1:List SV}
  (F:jL W a fd [stmt1,.Expr (.Call (.Attribute (.Name ya pa) "insert" apos) [.Name yl pl,.Name yx px] [] cpos) ipos]) (hfc:fd.scope.names=fc'.names) (hck:iT fc'=true) (hix:b5 fc' names ix=true) (hb:SX W k fc' stmt1 f1)
  (ha:bv fc' ya ia=true) (hl:bv fc' yl il=true) (hx:bv fc' yx ixx=true) (hline:(apos.endLine==cpos.line)=true)
  (hlam:∀ t,fc'.lam=some t->fd.code= .ref t.1/\fd.qualname++Str.ofString ".<locals>."++Str.ofString "<lambda>"=t.2.2)
  (xc:aR W fc env κ B ω st s m cm) (hrd:st[i]? =some (.own (.list xs))) (n1:fc.names[i]? =some xk) (n2:kq xk.2=true) (n3:bp m cm xk=some (.ref L)) (cL:aB W s.heap (fz W s.heap (aq B κ ω)) L (.list xs))
  (hxd:Data W (fz W s.heap (aq B κ ω)) xv dx) (hus:aS W s.heap (wo L (aq B κ ω)) (wo L (bw B ω)) us svs)
  (hbind:BindsTo s fd args (names.zip (.ref L::xv::us))) (hlen:us.length+2=names.length) (hA:cf (k+1) A)
  (q1:kk<=xs.length) (q2:xs.length<be) (e1:aY fc' ix (.ptr (.ref L) (.list xs):: .ptr xv dx::svs) (bc fc')=some st0) (e2:f1 st0=some (st1,.next))
  (r1:rd st1 ia=some (.ptr (.ref L) (.list xs))) (r2:rd st1 il=some (.d (.int kk))) (r3:rd st1 ixx=some (.ptr xv dx)):
  codeAny W.M A (.call (.ref a) args) (λr s'=>r= .ok (.ret .none)/\aR W fc env κ B ω (st.set i (.own (.list (gX xs kk dx)))) s' m cm/\bR W κ ω s s') s:=by
 have hLω:=xc.oω i _ xk L hrd n1 n3
 have hLh:L∈aq B κ ω:=lR _ (lR _ hLω)
 have hLL:=xc.noL i _ xk L hrd n1 n3
 have hLT:L∉W.T:=by obtain ⟨o',e',hd'⟩:=cL.ex;exact xc.gi.notin e' hd'
 obtain ⟨us0,ep,e0⟩:∃ (us:List Value) (ep:Nat),s.heap.get? L=some (cj us.toArray ep):=by
  have c:=cL
  cases c using aB.listE with | mk _ _ e _ _=>exact ⟨_,_,e⟩
 have dL:Data W (fz W s.heap (wo L (aq B κ ω))) (.ref L) (.list xs):=
  (cL.move (λU e=>e) (aG ej)).freeze λo' e'=>bx.mpr ⟨e',hLT,nZ⟩
 have pL:dm W s.heap (wo L (aq B κ ω)) (wo L (bw B ω)) (.ref L) (.ptr (.ref L) (.list xs)):=⟨rfl,dL⟩
 have pX:dm W s.heap (wo L (aq B κ ω)) (wo L (bw B ω)) xv (.ptr xv dx):=⟨rfl,Data.sub (aG ej) hxd⟩
 have x1:bD W fc env κ B ω st s:=⟨m,cm,xc⟩
 refine codeAny_mono (pQ (k:=k) (μ:=wo L (aq B κ ω)) (ν:=wo L (bw B ω)) F hfc hck hix hb hlam ha hl hx hline (vs:= .ref L::xv::us) (hbind W.M) hlen hA xc.gi (x1.ex.mono ej) (λb hb=>Ak b (x1.νhid b (ej b hb)) λq=>nZ (q ▸ hb)) (λb hb=>xc.nc b (ej b hb))
  (.cons pL (.cons pX hus)) e1 e2 r1 r2 r3 q1 q2 e0 (xc.gn L (lR _ hLω))) λr s₂ w=>?_
 obtain ⟨rfl,⟨ep',e'⟩,g2⟩:=w
 have hno:=xc.alone hrd n1 n3
 obtain ⟨x2,gs⟩:=(xc.forget i).grL g2 hLω hLL hno ⟨_,e',λvs q=>by w_cond q⟩
 have x3:=x2.reown n1 n2 n3 hLω hLL hno (xo g2 hLh cL hxd q2 e0 e')
 rw [List.set_set] at x3
 exact ⟨rfl,x3,gs⟩
noncomputable def yj (i jk:Nat) (fe:List SV->Option SV) (ba:(List PV->Option PV)->List PV->PV->Option Nat) (st:List SV):Option (List SV):=
 (mQ (cn st i)).bind λxs=>(de fe st).bind λdx=>(Df (rd st jk)).bind λf=>(ba f xs dx).map λk=>fV st i (.own (.list (gX xs k dx)))
theorem CR {y yr yb key:Str} {a:Addr} {fd:FuncData} {stmt1:Stmt} {ya yl yx:Str} {pa apos pl px cpos ipos p pos pr pb kp:Pos} {ex:Expr} {names:List Str} {ix:List Nat} {f1:List SV->Option (List SV×Fl)} {ia il ixx:Nat} {fe:List SV->Option SV} {dvs:List Value} {dsv:List SV} {ba:(List PV->Option PV)->List PV->PV->Option Nat} (k i jk:Nat)
  (hg:cG W fc y a) (F:jL W a fd [stmt1,.Expr (.Call (.Attribute (.Name ya pa) "insert" apos) [.Name yl pl,.Name yx px] [] cpos) ipos]) (hfc:fd.scope.names=fc'.names) (hck:iT fc'=true) (hix:b5 fc' names ix=true) (hb:SX W k fc' stmt1 f1) (hk:k+1<=n)
  (ha:bv fc' ya ia=true) (hl:bv fc' yl il=true) (hx:bv fc' yx ixx=true) (hline:(apos.endLine==cpos.line)=true)
  (hbind:∀ (s:Shared) (pvs:List Value) (kv:Value),GI W s->pvs.length=2->BindsTo s fd ⟨pvs,[(key,kv)]⟩ (names.zip (pvs++(dvs++[kv])))) (hnp:3 + dvs.length=names.length) (hd:∀ (h:Heap) (μ ν:List Addr),aS W h μ ν dvs dsv)
  (hrow:bv fc yr i=true) (hby:bv fc yb jk=true) (hex:SE W n fc ex fe)
  (hplace:∀ (f:List PV->Option PV) (xs:List PV) (dx:PV) (kk:Nat) (L xv:Value),ba f xs dx=some kk->kk<=xs.length/\xs.length<be/\∃ st st1,aY fc' ix (.ptr L (.list xs):: .ptr xv dx::(dsv++[.fn f])) (bc fc')=some st/\f1 st=some (st1,.next)/\rd st1 ia=some (.ptr L (.list xs))/\rd st1 il=some (.d (.int kk))/\rd st1 ixx=some (.ptr xv dx))
  (he:∀ env,starEach [.Name yr pr,ex] env=(false,eval (.Name yr pr) env)::starEach [ex] env:=by w_left) (he2:∀ env,starEach [ex] env=(false,eval ex env)::starEach [] env:=by w_left)
  (hlam:∀ t,fc'.lam=some t->fd.code= .ref t.1/\fd.qualname++Str.ofString ".<locals>."++Str.ofString "<lambda>"=t.2.2:=by intro t h;w_cond h):
  SU W n fc (.Call (.Name y p) [.Name yr pr,ex] [⟨some key,.Name yb pb,kp⟩] pos) (yj i jk fe ba):=by
 intro A env κ B ω st s st' hA x h
 obtain ⟨xs,hrd,h⟩:=ah h
 obtain ⟨dx,h1,h⟩:=ah h
 obtain ⟨f,hf,h⟩:=ah h
 obtain ⟨kk,h2,rfl⟩:=(aA h:_)
 rw [bV] at hrd
 have hrd:=fU hrd
 have hf:=oP hf
 obtain ⟨o,ho,hdo⟩:=F.obj
 obtain ⟨m,cm,xc⟩:=id x
 obtain ⟨xk,L,n1,n2,n3,cL,ldL⟩:=dE xc hrow hrd
 have hLω:=xc.oω i _ xk L hrd n1 n3
 refine wpAny_Call_Name_kw (fh hg.1 hg.2.2 hg.2.1 x ?_)
 refine callWith_def_kw (o:=o) hdo (evalArgs_kw2 (by rfl) ?_ (he env))
 refine wpAny_items_cons (ldL _ _ _ _ _ (wpAny_items_cons (wpAny_mono (hex A env κ B ω st s _ hA x (aT h1)) (λxv s₁ z=>wpAny_items_nil ?_) λU U q=>q) (he2 env))) (he env)
 have xc₁:=xc.gr z.2
 obtain ⟨vf,hvf,ldf⟩:=cJ ⟨m,cm,xc₁⟩ hby hf
 refine wpAny_evalAll_cons (wpAny_bind (wpAny_Name (ldf _ _ _ _ (wpAny_bind (wpAny_standAt (wpAny_pure (wpAny_evalAll_nil ?_))))) (cM hby)))
 refine ⟨xc₁.gi.top _ _ ho,?_⟩
 obtain ⟨q1,q2,st0,st1,e1,e2,r1,r2,r3⟩:=hplace f xs dx kk (.ref L) xv h2
 have cL1:aB W s₁.heap (fz W s₁.heap (aq B κ ω)) L (.list xs):=cL.move (λo' e'=>by
  obtain ⟨o'',e'',hd''⟩:=cL.ex
  erw [e'] at e'';w_cond e''
  exact z.2.kp _ _ (xc.gi.notin e' hd'') e') (bo _ z.2.kp)
 have vF:dm W s₁.heap (wo L (aq B κ ω)) (wo L (bw B ω)) vf (.fn f):=mL.sub hvf (aG ej)
 refine wpAny_call (codeAny_mono (qt F hfc hck hix hb ha hl hx hline hlam xc₁ hrd n1 n2 n3 cL1 z.1 ((hd _ _ _).append (.cons vF .nil)) (hbind s₁ [.ref L,xv] vf xc₁.gi rfl) (by simp;w_fin) (hA.le hk) q1 q2 e1 e2 r1 r2 r3) λr s₂ w=>?_)
 obtain ⟨rfl,x2,gs⟩:=w
 exact ⟨⟨m,cm,(b7 ..).symm ▸ x2⟩,(bR.of_gr z.2).trans (λb hb=> .inl hb) gs⟩
noncomputable def ym (i:Nat) (fe:List SV->Option SV) (ba:List PV->PV->Option Nat) (st:List SV):Option (List SV):=
 (mQ (cn st i)).bind λxs=>(de fe st).bind λdx=>(ba xs dx).map λk=>fV st i (.own (.list (gX xs k dx)))
theorem wI {y yr:Str} {a:Addr} {fd:FuncData} {stmt1:Stmt} {ya yl yx:Str} {pa apos pl px cpos ipos p pos pr:Pos} {ex:Expr} {names:List Str} {ix:List Nat} {f1:List SV->Option (List SV×Fl)} {ia il ixx:Nat} {fe:List SV->Option SV} {dvs:List Value} {dsv:List SV} {ba:List PV->PV->Option Nat} (k i:Nat)
  (hg:cG W fc y a) (F:jL W a fd [stmt1,.Expr (.Call (.Attribute (.Name ya pa) "insert" apos) [.Name yl pl,.Name yx px] [] cpos) ipos]) (hfc:fd.scope.names=fc'.names) (hck:iT fc'=true) (hix:b5 fc' names ix=true) (hb:SX W k fc' stmt1 f1) (hk:k+1<=n)
  (ha:bv fc' ya ia=true) (hl:bv fc' yl il=true) (hx:bv fc' yx ixx=true) (hline:(apos.endLine==cpos.line)=true)
  (hbind:∀ (s:Shared) (pvs:List Value),GI W s->pvs.length=2->BindsTo s fd ⟨pvs,[]⟩ (names.zip (pvs++dvs))) (hnp:2 + dvs.length=names.length) (hd:∀ (h:Heap) (μ ν:List Addr),aS W h μ ν dvs dsv)
  (hrow:bv fc yr i=true) (hex:SE W n fc ex fe)
  (hplace:∀ (xs:List PV) (dx:PV) (kk:Nat) (L xv:Value),ba xs dx=some kk->kk<=xs.length/\xs.length<be/\∃ st st1,aY fc' ix (.ptr L (.list xs):: .ptr xv dx::dsv) (bc fc')=some st/\f1 st=some (st1,.next)/\rd st1 ia=some (.ptr L (.list xs))/\rd st1 il=some (.d (.int kk))/\rd st1 ixx=some (.ptr xv dx))
  (he:∀ env,starEach [.Name yr pr,ex] env=(false,eval (.Name yr pr) env)::starEach [ex] env:=by w_left) (he2:∀ env,starEach [ex] env=(false,eval ex env)::starEach [] env:=by w_left)
  (hlam:∀ t,fc'.lam=some t->fd.code= .ref t.1/\fd.qualname++Str.ofString ".<locals>."++Str.ofString "<lambda>"=t.2.2:=by intro t h;w_cond h):
  SU W n fc (.Call (.Name y p) [.Name yr pr,ex] [] pos) (ym i fe ba):=by
 intro A env κ B ω st s st' hA x h
 obtain ⟨xs,hrd,h⟩:=ah h
 obtain ⟨dx,h1,h⟩:=ah h
 obtain ⟨kk,h2,rfl⟩:=(aA h:_)
 rw [bV] at hrd
 have hrd:=fU hrd
 obtain ⟨o,ho,hdo⟩:=F.obj
 obtain ⟨m,cm,xc⟩:=id x
 obtain ⟨xk,L,n1,n2,n3,cL,ldL⟩:=dE xc hrow hrd
 refine wpAny_Call_Name_kw (fh hg.1 hg.2.2 hg.2.1 x ?_)
 refine callWith_def (o:=o) hdo ?_ (he env)
 refine wpAny_items_cons (ldL _ _ _ _ _ (wpAny_items_cons (wpAny_mono (hex A env κ B ω st s _ hA x (aT h1)) (λxv s₁ z=>wpAny_items_nil ?_) λU U q=>q) (he2 env))) (he env)
 have xc₁:=xc.gr z.2
 refine ⟨xc₁.gi.top _ _ ho,?_⟩
 obtain ⟨q1,q2,st0,st1,e1,e2,r1,r2,r3⟩:=hplace xs dx kk (.ref L) xv h2
 have cL1:aB W s₁.heap (fz W s₁.heap (aq B κ ω)) L (.list xs):=cL.move (λo' e'=>by
  obtain ⟨o'',e'',hd''⟩:=cL.ex
  erw [e'] at e'';w_cond e''
  exact z.2.kp _ _ (xc.gi.notin e' hd'') e') (bo _ z.2.kp)
 refine wpAny_call (codeAny_mono (qt F hfc hck hix hb ha hl hx hline hlam xc₁ hrd n1 n2 n3 cL1 z.1 (hd _ _ _) (hbind s₁ [.ref L,xv] xc₁.gi rfl) (by w_fin) (hA.le hk) q1 q2 e1 e2 r1 r2 r3) λr s₂ w=>?_)
 obtain ⟨rfl,x2,gs⟩:=w
 exact ⟨⟨m,cm,(b7 ..).symm ▸ x2⟩,(bR.of_gr z.2).trans (λb hb=> .inl hb) gs⟩
end
section
variable {prog:Program} {w:World} {A:Around} {E:Value->Shared->Prop} {s:Shared}
theorem zZ {a vs n P} (ho:s.heap.get? a=some (seqObj "list" vs.toArray n)) (h64:vs.length<64) (h1:vs.length<2->P (.done (.ret .none)) { s with heap:=sortedHeap s.heap a vs vs.toArray }) (h2:2<=vs.length->∀ h3:Heap,(∀ b o,b≠a->s.heap.get? b=some o->h3.get? b=some o)->
   wpAny (model prog w) A (keyKind' vs.toArray) (λκ s'=>(kas_sort vs.length).kasWp (kas_ask prog w A κ vs) (λp s''=>s''={ s with heap:=h3 }/\P (.done (.ret .none)) { s with heap:=sortedHeap s.heap a vs (p.toList.map λi=>vs.getD i Value.none).toArray }) s') (λU U=>False) { s with heap:=h3 }):
  wpAny (model prog w) A (Builtin.«list.sort» ⟨[.ref a],[]⟩) P E s:=by
 haveI ha:a<s.heap.objs.size:=Heap.lt_size ho
 rw [list_sort_plain]
 refine wpAny_bind (listItems_at ho rfl ?_)
 refine wpAny_bind (listUpdate_at ho rfl ?_ (by rw [List.size_toArray,sizeLine_eq];w_fin) (Nat.zero_le _))
 obtain ⟨e1,ho1⟩:∃ e1,(s.heap.update a (Obj.mapSeq λU=>#[])).get? a=some (seqObj "list" #[] e1):=⟨_,get?_update_seq ho (λU=>#[])⟩
 refine wpAny_bind (seqEpoch_at ho1 rfl ?_)
 refine wpAny_bind (wpAny_newTuple ?_ (by show vs.length<=_;rw [sizeLine_eq];w_fin))
 refine wpAny_bind (wpAny_newList ?_ (Nat.zero_le _))
 refine wpAny_holding ?_
 have ho6:(((s.heap.update a (Obj.mapSeq λU=>#[])).push (seqObj "tuple" vs.toArray 0)).push (seqObj "list" #[] 0)).get? a=some (seqObj "list" #[] e1):=by
  rw [Heap.get?_push_ne _ _ _ (by rw [size_push',Heap.size_update];exact Nat.ne_of_lt (Nat.lt_succ_of_lt ha)),Heap.get?_push_ne _ _ _ (by rw [Heap.size_update];exact Nat.ne_of_lt ha)]
  exact ho1
 haveI keep3:∀ b o,b≠a->s.heap.get? b=some o->(((s.heap.update a (Obj.mapSeq λU=>#[])).push (seqObj "tuple" vs.toArray 0)).push (seqObj "list" #[] 0)).get? b=some o:=λb o hb e=>
  Heap.get?_push_of_some _ (Heap.get?_push_of_some _ ((Heap.get?_update_ne _ _ _ _ hb).trans e))
 dsimp only
 by_cases hn:vs.toArray.size<2
 ·rw [if_pos hn,if_pos hn]
  have hn':vs.length<2:=by simpa using hn
  refine wpAny_bind (wpAny_pure ?_)
  refine wpAny_bind (wpAny_pure ?_)
  dsimp only
  refine wpAny_bind (seqEpoch_at ho6 rfl ?_)
  refine wpAny_bind (listUpdate_at ho6 rfl ?_ (Nat.zero_le _) (by rw [Array.size_map];show (pairsOf vs).size<=_;rw [pairsOf_size,sizeLine_eq];w_fin))
  simp only [bne_self_eq_false,Bool.false_eq_true,if_false]
  haveI e:(vs.toArray.zip vs.toArray).map (·.2)=vs.toArray:=by
   apply Array.ext'
   simp [List.map_snd_zip]
  have:=h1 hn'
  erw [<-e] at this
  exact wpAny_pure this
 ·rw [if_neg hn,if_neg hn]
  have hn':2<=vs.length:=by
                  have:¬ vs.length<2:=by simpa using hn
                  w_fin
  refine wpAny_bind (wpAny_mono (h2 hn' _ keep3) (λκ s0 hk=>?_) λU U x=>x.elim)
  refine wpAny_bind (wpAny_mono (kat_run (Q:=λst' s'=>∃ p:Array Nat,p.size=vs.length/\arrOf st'=p.map (kas_item (vs.toArray.zip vs.toArray))/\failedOf st'=none/\s'={ s with heap:=((s.heap.update a (Obj.mapSeq λU=>#[])).push (seqObj "tuple" vs.toArray 0)).push (seqObj "list" #[] 0) }/\P (.done (.ret .none)) { s with heap:=sortedHeap s.heap a vs (p.toList.map λi=>vs.getD i Value.none).toArray })
   rfl hn' h64 (λp' st' s' a1 a2 a3 a4=>⟨p',a1,a2,a3,a4.1,a4.2⟩) hk) ?_ λU U e=>e)
  rintro ⟨⟨⟩,st'⟩ s' ⟨p,hp,har,hf,rfl,hP⟩
  dsimp only
  haveI hout:=kat_snds (vs:=vs) (ks:=vs) rfl har
  haveI hsz:(List.toArray (p.toList.map λi=>vs.getD i Value.none)).size=vs.length:=by erw [List.size_toArray,fJ,Array.length_toList,hp]
  rw [hout]
  refine wpAny_bind (seqEpoch_at ho6 rfl ?_)
  refine wpAny_bind (listUpdate_at ho6 rfl ?_ (Nat.zero_le _) (Nat.le_trans (Nat.le_of_eq hsz) (by rw [sizeLine_eq];w_fin)))
  rw [hf]
  simp only [bne_self_eq_false,Bool.false_eq_true,if_false]
  exact wpAny_pure hP
theorem s6 {l vs Q} (hl:s.heap.IsList l vs.toArray) (h64:vs.length<64) (h1:vs.length<2->Q (.ref (s.heap.objs.size+1)) { s with heap:=sortedAll s.heap vs vs.toArray }) (h2:2<=vs.length->∀ h3:Heap,bF s.heap h3->
   wpAny (model prog w) A.in1.in1 (keyKind' vs.toArray) (λκ s'=>(kas_sort vs.length).kasWp (kas_ask prog w A.in1.in1 κ vs) (λp s''=>s''={ s with heap:=h3 }/\Q (.ref (s.heap.objs.size+1)) { s with heap:=sortedAll s.heap vs (p.toList.map λi=>vs.getD i Value.none).toArray }) s') (λU U=>False) { s with heap:=h3 }):
  wpAny (model prog w) A (call (.builtin "sorted") [.ref l]) Q E s:=by
 refine Calls.call_function_entry kind_sorted plain_sorted entry_sorted (args_sorted1 _) ?_
 refine wpAny_bind (m:=checkCount "sorted" 1 1 _) (wpAny_pure ?_)
 refine wpAny_bind (collect_list hl ?_ (by rw [sizeLine_eq];w_fin))
 refine wpAny_bind (wpAny_newList ?_ (by rw [sizeLine_eq];w_fin))
 haveI hsz:((s.heap.push (seqObj "list" #[] 0)).update s.heap.objs.size (Obj.mapSeq (· ++vs.toArray))).objs.size=s.heap.objs.size+1:=by
  erw [Heap.size_update,size_push']
 haveI hoL:(((s.heap.push (seqObj "list" #[] 0)).update s.heap.objs.size (Obj.mapSeq (· ++vs.toArray))).push (seqObj "list" vs.toArray 0)).get? (s.heap.objs.size+1)=some (seqObj "list" vs.toArray 0):=by
  erw [<-hsz];exact Heap.get?_push_size _ rfl
 erw [hsz]
 refine wpAny_bind (wpAny_holding (wpAny_call_entry slot_list_sort ⟨_,hoL,rfl⟩ entry_list_sort (zZ hoL h64 (λhn=>⟨_,rfl,wpAny_pure ⟨_,rfl,h1 hn⟩⟩) (λhn h3 hk=>?_)) (args_list_sort _)))
 haveI sub:bF s.heap h3:=λb o e=>by
  have hlt:b<s.heap.objs.size:=Heap.lt_size e
  refine hk b o (Nat.ne_of_lt (Nat.lt_succ_of_lt hlt)) ?_
  refine Heap.get?_push_of_some _ ((Heap.get?_update_ne _ _ _ _ (Nat.ne_of_lt hlt)).trans (Heap.get?_push_of_some _ e))
 refine wpAny_mono (h2 hn h3 sub) (λκ s' hq=>?_) λU U x=>x
 rw [kas_ask_eq] at hq ⊢
 exact kas_wp_mono hq λp s'' hq'=>⟨hq'.1,_,rfl,wpAny_pure ⟨_,rfl,hq'.2⟩⟩
end
noncomputable def EL:List PV->List PV->Option Bool
 | [],_=>some false
 | x::xs,ys=>ys.head?.bind λy=>(fG x).bind λa=>(fG y).bind λb=>if a=b then EL xs ys.tail else some (decide (a<b))
theorem EM {x xs ys}:EL (x::xs) ys=ys.head?.bind λy=>(fG x).bind λa=>(fG y).bind λb=>if a=b then EL xs ys.tail else some (decide (a<b)):=rfl
theorem t5 {α:Type} {vs:List α} {i v l} (h:vs.drop i=v::l):vs[i]? =some v/\vs.drop (i+1)=l:=by
 constructor
 ·have:=congrArg (λl:List α=>l[0]?) h
  simpa using this
 ·have:=congrArg List.tail h
  rw [List.tail_drop] at this
  exact this
theorem BK {F:Heap} {vs us:List Value} {l b n n2} (hsz:vs.length=us.length) (xs:List PV):∀ (ys:List PV) (i:Nat) (r:Bool),ae W F (vs.drop i) xs->ae W F (us.drop i) ys->EL xs ys=some r->
  Meets (Builtin.«list.__eq__.loop» ⟨[.ref l,.ref b,rawInt i,rawInt 0],[]⟩) (λA R s=>s.heap.get? l=some (cj vs.toArray n)/\s.heap.get? b=some (cj us.toArray n2)/\R (.ok (.ret (.bool r))) s):=by
 induction xs with
 | nil=>
  intro ys i r d1 d2 h prog w A R s q
  obtain ⟨hp,g,d,tk,os⟩:=s
  obtain ⟨hl,hb,hR⟩:=q
  have e1:=d1.nil_inv
  w_cond h
  have hi:=List.drop_eq_nil_iff.mp e1
  have hi1:vs.toArray[((i:Nat):Int).toNat]? =none:=by simpa using hi
  have hi2:us.toArray[((i:Nat):Int).toNat]? =none:=by simpa using hsz ▸ hi
  wp_walk using wpAny_loadPart' hl,wpAny_loadPart' hb
  rw [hi1,hi2]
  wp_walk using wpAny_loadPart' hl,wpAny_loadPart' hb
  show R (.ok (.ret (.bool (decide (vs.toArray.size<us.toArray.size))))) _
  rw [List.size_toArray,List.size_toArray,hsz,decide_eq_false (Nat.lt_irrefl _)]
  exact hR
 | cons x xs ih=>
  intro ys i r d1 d2 h prog w A R s q
  obtain ⟨hp,g,d,tk,os⟩:=s
  obtain ⟨hl,hb,hR⟩:=q
  obtain ⟨y,h1,h2⟩:=ah (EM.symm.trans h)
  obtain ⟨a,h3,h4⟩:=ah h2
  obtain ⟨c,h5,h6⟩:=ah h4
  obtain ⟨ys',rfl⟩:∃ ys',ys=y::ys':=by
   cases ys with
   | nil=>exact nS h1
   | cons z zs=>w_cond h1;exact ⟨_,rfl⟩
  obtain rfl:=aJ h3
  obtain rfl:=aJ h5
  clear h h1 h2 h3 h4 h5
  obtain ⟨v,vs',e1,b1,d1⟩:=d1.cons_inv
  obtain ⟨u,us',e2,b2,d2⟩:=d2.cons_inv
  obtain ⟨t,rfl⟩:=RV.intI (h:=F) (.inl b1)
  obtain ⟨t',rfl⟩:=RV.intI (h:=F) (.inl b2)
  obtain ⟨g1,rfl⟩:=t5 e1
  obtain ⟨g2,rfl⟩:=t5 e2
  have hi1:vs.toArray[((i:Nat):Int).toNat]? =some (.int a t):=by simpa using g1
  have hi2:us.toArray[((i:Nat):Int).toNat]? =some (.int c t'):=by simpa using g2
  have hc:((i:Int)+1)=((i+1:Nat):Int):=by push_cast;rfl
  wp_walk using wpAny_loadPart' hl,wpAny_loadPart' hb
  rw [hi1,hi2]
  refine wpAny_bind (wpAny_eqBool_int ?_)
  by_cases hac:a=c
  ·rw [if_pos hac] at h6
   rw [show (a==c)=true from beq_iff_eq.mpr hac]
   wp_walk
   rw [hc]
   exact ⟨plainId_quiet PySem.MeetsSeq3.plain_eq_loop _,codeAny_builtin PySem.MeetsSeq3.entry_eq_loop (by
    rw [Around.under_plainId PySem.MeetsSeq3.plain_eq_loop _]
    exact ih ys' (i+1) r d1 d2 h6 prog w A R _ ⟨hl,hb,hR⟩)⟩
  ·rw [if_neg hac] at h6
   w_cond h6
   rw [show (a==c)=false from beq_eq_false_iff_ne.mpr hac]
   wp_walk using wpAny_loadPart' hl,wpAny_loadPart' hb
   rw [hi1,hi2]
   refine wpAny_bind (lt_int ?_)
   wp_walk
   exact hR
theorem uy {F:Heap} {vs us:List Value} {xs ys:List PV} {l b n n2 r} (hsz:vs.length=us.length) (d1:ae W F vs xs) (d2:ae W F us ys) (h:EL xs ys=some r):
  Meets (Builtin.«list.__lt__» ⟨[.ref l,.ref b],[]⟩) (λA R s=>s.heap.get? l=some (cj vs.toArray n)/\s.heap.get? b=some (cj us.toArray n2)/\R (.ok (.ret (.bool r))) s):=by
 intro prog w A R s q
 obtain ⟨hp,g,d,tk,os⟩:=s
 obtain ⟨hl,hb,hR⟩:=q
 have f3:=AutoSeq1.sub_list_list
 wp_walk using wpAny_loadPart' hl,wpAny_loadPart' hb
 exact ⟨plainId_quiet PySem.MeetsSeq3.plain_eq_loop _,codeAny_builtin PySem.MeetsSeq3.entry_eq_loop (by
  rw [Around.under_plainId PySem.MeetsSeq3.plain_eq_loop _]
  exact BK hsz xs ys 0 r d1 d2 h prog w A R _ ⟨hl,hb,hR⟩)⟩
noncomputable def mM (d e:PV):Option Bool:=match d with
 | .list xs=>(pA e).bind λys=>if xs.length=ys.length then EL xs ys else none
 | _=>GR d e
theorem pP {xs e r} (h:mM (.list xs) e=some r):∃ ys,e= .list ys/\xs.length=ys.length/\EL xs ys=some r:=by
 obtain ⟨ys,h1,h2⟩:=(ah h:_)
 obtain ⟨h3,h4⟩:=bI h2
 exact ⟨ys,cO h1,h3,h4⟩
theorem tO:je W (compareOp .Lt) mM:=by
 intro A s a b da db r F0 hA g hF ha hb h
 cases da with
 | list xs=>
  obtain ⟨ys,rfl,hl,hr⟩:=pP h
  obtain ⟨p,vs,ep,rfl,e1,_,d1⟩:=ha.listI hF
  obtain ⟨p',us,ep',rfl,e2,_,d2⟩:=hb.listI hF
  exact richCompare_meets_room (op:= .Lt) ⟨_,e1,rfl⟩ ⟨_,e2,rfl⟩ F.slot_list_lt F.entry_list_lt (F.args_list_lt_2 _ _) (uy (n:=ep) (n2:=ep') (d1.length.trans (hl.trans d2.length.symm)) d1 d2 hr)
   ⟨e1,e2,show Value.bool r≠Value.notImplemented/\_ from ⟨(λx=>nomatch x),rfl,Gr.refl _ _⟩⟩ (by have:=hA.units;w_fin)
 | _=>exact jP A s a b _ db r F0 hA g hF ha hb h
noncomputable def iV {α:Type} (lt:Nat->Nat->Option Bool) (n:Nat):KasT α->Option α
 | .ret a=>some a
 | .ask i j k=>if (Nat.blt i n&&Nat.blt j n)=true then (lt i j).bind λb=>iV lt n (k b) else none
theorem vH {α:Type} {lt n i j} {k:Bool->KasT α}:iV lt n (.ask i j k)=if (Nat.blt i n&&Nat.blt j n)=true then (lt i j).bind λb=>iV lt n (k b) else none:=rfl
theorem vI {α:Type} {lt:Nat->Nat->Option Bool} {n:Nat} {cmp:Nat->Nat->(Bool->Shared->Prop)->Shared->Prop} {s:Shared} (hc:∀ i j b (C:Bool->Shared->Prop),i<n->j<n->lt i j=some b->C b s->cmp i j C s) {Q:α->Shared->Prop} {a:α} (hq:Q a s) (t:KasT α):iV lt n t=some a->t.kasWp cmp Q s:=by
 induction t with
 | ret b=>intro h;w_cond h;exact hq
 | ask i j k ih=>
  intro h
  obtain ⟨hij,h⟩:=bI (vH.symm.trans h)
  obtain ⟨b,h1,h2⟩:=(ah h:_)
  rw [Bool.and_eq_true] at hij
  exact hc i j b _ (Nat.blt_eq.mp hij.1) (Nat.blt_eq.mp hij.2) h1 (ih b h2)
noncomputable abbrev K3:=Int×Int×List Nat
noncomputable def JI (x y:K3):Bool:=if x.1=y.1 then (if x.2.1=y.2.1 then decide (x.2.2<y.2.2) else decide (x.2.1<y.2.1)) else decide (x.1<y.1)
noncomputable def u9 (d:PV):Option K3:=match d with
 | .tuple l=>(match l with
  | [a,b,c]=>(fG a).bind λa=>(fG b).bind λb=>(vr c).map λc=>(a,b,c)
  | _=>none)
 | _=>none
noncomputable def BC (k:K3):PV:= .tuple [.int k.1,.int k.2.1,.str k.2.2]
theorem j7 {d k} (h:u9 d=some k):d=BC k:=by
 cases d with
 | tuple l=>
  rcases l with _ | ⟨a,_ | ⟨b,_ | ⟨c,_ | ⟨e,l⟩⟩⟩⟩ <;> try exact nS h
  obtain ⟨x,h1,h⟩:=ah h
  obtain ⟨y,h2,h⟩:=ah h
  obtain ⟨z,h3,rfl⟩:=aA h
  erw [aJ h1,aJ h2,dW h3];rfl
 | _=>exact nS h
noncomputable def Eh (d e:PV):Option Bool:=(u9 d).bind λx=>(u9 e).map λy=>JI x y
noncomputable def ny:PV->Bool
 | .list _=>true
 | _=>false
theorem nz {d} (h:ny d=true):∃ xs,d= .list xs:=by
 cases d <;> first | exact ⟨_,rfl⟩ | w_cond h
noncomputable def uw (d:PV):Bool:=(u9 d).isSome
noncomputable def s5 (f:PV->PV->Option Bool) (xs:List PV):Option PV:=
 (iV (λi j=>f (xs.getD i .none) (xs.getD j .none)) xs.length (kas_sort xs.length)).bind λp=>if Nat.blt p.size 64 then some (.list (p.toList.map λi=>xs.getD i .none)) else none
noncomputable def o8 (ds:List PV):Option PV:=(y9 ds).bind λd=>(pA d).bind λxs=>if Nat.blt xs.length 64 then (if xs.length<2 then some (.list xs) else if xs.all ny then s5 mM xs else if xs.all uw then s5 Eh xs else none) else none
section
variable {n:Nat} {fc:FC} {env:Env} {κ:List Addr} {B:aN} {ω:List Addr} {st:List SV} {s s':Shared} {m cm:Str->Option Value}
theorem yG {F v x} (h:Data W F v (BC x)):∃ a ep t1 t2 t3,v= .ref a/\F.get? a=some (kN #[.int x.1 t1,.int x.2.1 t2,.str (bM x.2.2) t3] ep):=by
 obtain ⟨a,vs,ep,rfl,e,_,b⟩:=Data.tI h
 obtain ⟨v1,r1,rfl,b1,d1⟩:=b.cons_inv
 obtain ⟨v2,r2,rfl,b2,d2⟩:=d1.cons_inv
 obtain ⟨v3,r3,rfl,b3,d3⟩:=d2.cons_inv
 obtain rfl:=d3.nil_inv
 obtain ⟨t1,rfl⟩:=RV.intI (h:=F) (.inl b1)
 obtain ⟨t2,rfl⟩:=RV.intI (h:=F) (.inl b2)
 obtain ⟨⟨t3,rfl⟩,_⟩:=RV.strI (h:=F) (.inl b3)
 exact ⟨a,ep,t1,t2,t3,rfl,e⟩
theorem BD {A s C E v u x y} (hx:Data W s.heap v (BC x)) (hy:Data W s.heap u (BC y)) (h:C (JI x y) s):wpAny W.M A (keyLt' (tuples' true) v u) C E s:=by
 obtain ⟨a,ep,t1,t2,t3,rfl,e⟩:=yG hx
 obtain ⟨a',ep',u1,u2,u3,rfl,e'⟩:=yG hy
 clear hx hy
 obtain ⟨x1,x2,x3⟩:=x
 obtain ⟨y1,y2,y3⟩:=y
 refine kat_lt e rfl e' rfl ?_
 simp only [JI] at h
 refine kat_cons (wpAny_eqBool_int (kat_go (λq1=>kat_yes ?_) λq1=>kat_no ?_))
 ·rw [beq_iff_eq] at q1;subst q1
  simp only [if_true] at h
  refine kat_cons (wpAny_eqBool_int (kat_go (λq2=>kat_yes ?_) λq2=>kat_no ?_))
  ·rw [beq_iff_eq] at q2;subst q2
   simp only [if_true] at h
   refine kat_cons (eqBool_str (kat_go (λq3=>kat_yes (kat_nil ?_)) λq3=>kat_no ?_))
   ·have:x3=y3:=iy (beq_iff_eq.mp q3)
    subst this
    simpa [List.lt_irrefl] using h
   ·exact kat_one _ _ (lt_str h)
  ·have q2':¬ x2=y2:=by simpa using q2
   simp only [q2',if_false] at h
   exact kat_one _ _ (lt_int h)
 ·have q1':¬ x1=y1:=by simpa using q1
  simp only [q1',if_false] at h
  exact oneLt_int h
theorem yK {A s C v u d e b} (hA:A.units<cLine) (hd:ny d=true) (hx:Data W s.heap v d) (hy:Data W s.heap u e) (q:mM d e=some b) (h:C b s):wpAny W.M A (keyLt' oneType' v u) C (λU U=>False) s:=by
 obtain ⟨xs,rfl⟩:=nz hd
 obtain ⟨ys,rfl,hl,hr⟩:=pP q
 obtain ⟨p,vs,ep,rfl,e1,_,d1⟩:=hx.lI
 obtain ⟨p',us,ep',rfl,e2,_,d2⟩:=hy.lI
 rw [keyLt'_oneType,oneLt'_eq]
 simp only [if_true]
 refine wpAny_bind (wpAny_cRoomFor hA ?_)
 refine wpAny_bind (wpAny_callSpecialIfBound?_slot ⟨_,e1,rfl⟩ F.slot_list_lt (call_meets F.slot_list_lt ⟨_,e1,rfl⟩ F.entry_list_lt (F.args_list_lt_2 _ _) (uy (n:=ep) (n2:=ep') (d1.length.trans (hl.trans d2.length.symm)) d1 d2 hr) ⟨e1,e2,?_⟩))
 exact wpAny_truthy_bool h
theorem vY {A F0 f us xs} {C:SortKind->Shared->Prop} {h3:Heap} (hA:A.units<cLine) (b:ae W F0 us xs) (k:bF F0 h3) (h2:2<=us.length) (hf:(f=mM/\xs.all ny=true)∨(f=Eh/\xs.all uw=true))
  (hC:∀ κ,(∀ (v u:Value) (d e:PV) (c:Bool) (D:Bool->Shared->Prop),d∈xs->Data W h3 v d->Data W h3 u e->f d e=some c->D c { s with heap:=h3 }->wpAny W.M A (keyLt' κ v u) D (λU U=>False) { s with heap:=h3 })->C κ { s with heap:=h3 }):
  wpAny W.M A (keyKind' us.toArray) C (λU U=>False) { s with heap:=h3 }:=by
 rcases hf with ⟨rfl,hf⟩ | ⟨rfl,hf⟩
 ·refine kas_kind (T:= .type "list") (s:={ s with heap:=h3 }) h2 (λv hv=>?_) (by decide) (by rfl) (hC _ λv u d e c D hd x y q w=>yK hA (List.all_eq_true.mp hf d hd) x y q w)
  obtain ⟨i,hi,rfl⟩:=List.getElem_of_mem hv
  obtain ⟨d,e1,e2⟩:=b.getV (List.getElem?_eq_getElem hi)
  obtain ⟨ys,rfl⟩:=nz (List.all_eq_true.mp hf d (List.mem_of_getElem? e1))
  obtain ⟨p,vs,ep,hp,e3,_⟩:=e2.lI
  rw [hp]
  exact (Looks.ld (part:=none) (k _ _ e3)).andThen .now
 ·have tup:∀ (vs:List Value) (xs:List PV),ae W F0 vs xs->xs.all uw=true->∃ fs:List Value,fs.length=vs.length/\KatTups h3 vs fs/\∀ v∈fs,∃ i t,v= .int i t:=λvs=>by
   induction vs with
   | nil=>intro ts h _;exact ⟨[],rfl,.nil,λv h=>(by w_cond h)⟩
   | cons v vs ih=>
    intro xs h hq
    cases xs with
    | nil=>w_cond h
    | cons d xs=>
     rw [List.all_cons,Bool.and_eq_true] at hq
     obtain ⟨t,ht⟩:=Option.isSome_iff_exists.mp hq.1
     obtain rfl:=j7 ht
     cases h with | cons x y=>
     obtain ⟨fs,f0,f1,f2⟩:=ih xs y hq.2
     cases x using Data.tupleE with | mk _ _ _ ee _ bb=>
     obtain ⟨w1,ws,rfl,bb1,_⟩:=bb.cons_inv
     cases bb1 using Data.intE with | mk t=>
     refine ⟨.int _ t::fs,by simp [f0],.cons (k _ _ ee) rfl rfl rfl f1,λv hv=>?_⟩
     rcases aX hv with rfl | hv
     ·exact ⟨_,_,rfl⟩
     ·exact f2 v hv
  obtain ⟨fs,f0,f1,f2⟩:=tup us xs b hf
  refine kat_kind (T:= .type "int") (s:={ s with heap:=h3 }) f1 (by w_fin) (λv hv=>?_) (by rfl) ?_
  ·obtain ⟨i,t,rfl⟩:=f2 v hv
   exact Looks.now
  ·have hk:(Value.type "int" != Value.type "tuple")=true:=by decide
   rw [hk]
   refine hC _ λv u d e c D hd x y q w=>?_
   obtain ⟨t1,g1,q⟩:=ah q
   obtain ⟨t2,g2,rfl⟩:=(aA q:_)
   obtain rfl:=j7 g1
   obtain rfl:=j7 g2
   exact BD x y w
theorem mh:Gf W 2 (λvs=>call (.builtin "sorted") vs) o8:=by
 intro A s μ vs ds r hA g ex hv h
 obtain ⟨d,g1,h⟩:=ah h
 obtain ⟨xs,g2,h⟩:=ah h
 obtain ⟨h64,h⟩:=bI h
 have h64:=Nat.blt_eq.mp h64
 obtain rfl:=ez g1
 obtain rfl:=cO g2
 clear g1 g2
 obtain ⟨v,rfl,d⟩:=hv.one
 cases d using Data.listE with | mk a us ep e n1 b=>
 have hul:=b.length
 have e':=av _ _ _ _ _ e
 have done:∀ (out:List Value) (ys:List PV),ae W (fz W s.heap μ) out ys->ys.length<=be->
   (∃ a,Value.ref (s.heap.objs.size+1)= .ref a/\s.heap.get? a=none/\aB W (sortedAll s.heap us out.toArray) (fz W (sortedAll s.heap us out.toArray) (a::μ)) a (.list ys))/\Gr W s { s with heap:=sortedAll s.heap us out.toArray }:=λout ys hd hl=>by
  obtain ⟨e2,he2⟩:=sortedAll_at s.heap us out.toArray
  have k:bF s.heap (sortedAll s.heap us out.toArray):=λb o e=>sortedAll_old e
  have hn:s.heap.get? (s.heap.objs.size+1)=none:=Heap.get?_none_of_le (Nat.le_succ _)
  exact ⟨⟨_,rfl,hn,.list (vs:=out) he2 (by rw [hd.length];exact hl) (hd.sub (ue k hn))⟩,Gr.of_sub k⟩
 have hc:(xs.length<2/\ .list xs=r)∨(¬ xs.length<2/\∃ f p,((f=mM/\xs.all ny=true)∨(f=Eh/\xs.all uw=true))/\iV (λi j=>f (xs.getD i .none) (xs.getD j .none)) xs.length (kas_sort xs.length)=some p/\p.size<64/\ .list (p.toList.map λi=>xs.getD i .none)=r):=by
  have sb:∀ {f},s5 f xs=some r->∃ p,iV (λi j=>f (xs.getD i .none) (xs.getD j .none)) xs.length (kas_sort xs.length)=some p/\p.size<64/\ .list (p.toList.map λi=>xs.getD i .none)=r:=λq=>by
   obtain ⟨p,q1,q2⟩:=ah q
   obtain ⟨q3,q4⟩:=bI q2
   exact ⟨p,q1,Nat.blt_eq.mp q3,sI q4⟩
  by_cases h1:xs.length<2
  ·rw [if_pos h1] at h
   exact .inl ⟨h1,sI h⟩
  ·rw [if_neg h1] at h
   refine .inr ⟨h1,?_⟩
   by_cases h2:xs.all ny=true
   ·rw [if_pos h2] at h
    obtain ⟨p,q⟩:=sb h
    exact ⟨_,p,.inl ⟨rfl,h2⟩,q⟩
   ·rw [if_neg h2] at h
    obtain ⟨h3,h⟩:=bI h
    obtain ⟨p,q⟩:=sb h
    exact ⟨_,p,.inr ⟨rfl,h3⟩,q⟩
 (try clear h)
 refine s6 (vs:=us) ⟨_,e',rfl,_,rfl⟩ (by w_fin) (λhlt=>?_) λh2 h3 sub3=>?_
 ·rcases hc with ⟨_,rfl⟩ | ⟨h1,_⟩
  ·exact done us xs b (by unfold be;w_fin)
  ·w_fin
 ·rcases hc with ⟨h1,_⟩ | ⟨_,f,p,hf,hp,hp64,rfl⟩
  ·w_fin
  ·have b3:=b.sub (av W s.heap μ)
   refine vY (s:=s) (F0:=s.heap) (by have:=hA.units;show A.units+1+1<cLine;w_fin) b3 sub3 h2 hf λκ hκ=>?_
   rw [hul]
   have gi:∀ i,i<xs.length->Data W h3 (us.getD i .none) (xs.getD i .none)/\xs.getD i .none∈xs:=λi hi=>by
    have hx:xs[i]? =some xs[i]:=List.getElem?_eq_getElem hi
    obtain ⟨v,hv1,hv2⟩:=b3.get hx
    rw [List.getD_eq_getElem?_getD,List.getD_eq_getElem?_getD,hv1,hx]
    exact ⟨hv2.sub sub3,List.getElem_mem hi⟩
   refine vI (λi j b C hi hj hb hC=>?_) ⟨rfl,?_⟩ _ hp
   ·exact hκ _ _ _ _ _ _ (gi i hi).2 (gi i hi).1 (gi j hj).1 hb hC
   ·refine done (p.toList.map λi=>us.getD i Value.none) _ ?_ (by rw [fJ,Array.length_toList];unfold be;w_fin)
    have gg:∀ l:List Nat,ae W (fz W s.heap μ) (l.map λi=>us.getD i .none) (l.map λi=>xs.getD i .none):=λl=>by
     induction l with
     | nil=>exact .nil
     | cons i l ih=>
      refine .cons ?_ ih
      show Data W _ (us.getD i .none) (xs.getD i .none)
      cases hx:xs[i]? with
      | none=>
       rw [List.getD_eq_getElem?_getD,List.getD_eq_getElem?_getD,hx,List.getElem?_eq_none (by rw [hul];exact List.getElem?_eq_none_iff.mp hx)]
       exact .none
      | some d=>
       obtain ⟨v,hv1,hv2⟩:=b.get hx
       rw [List.getD_eq_getElem?_getD,List.getD_eq_getElem?_getD,hv1,hx]
       exact hv2
    exact gg _
end
section
open PySem.W.X
section
variable {M:Model} {A:Around} {c:Code} {fs:List Frame} {s:Shared} {P:End->Shared->Prop} {env:Env} {K:Flow->Sem Fin} {H:Value->Sem Fin} {gd:Bool->Bool} {lv:List Value->List Value}
theorem jG {α:Type} {m} {K:α->Sem Fin} {H:Value->Sem Fin} (h:wpAny M (A.over c fs) m (λa s'=>SegX M A c (K a) fs s' P) (λx s'=>SegX M A c (H x) fs s' P) s):
  SegX M A c (m.wrap K H gd lv) fs s P:=by
 rintro Γ p rfl hΓ
 obtain ⟨e,s',hr,hq⟩:=runs_wrap_of_wp (Φ:=λe s'=>e.quiet=true/\P e s') K H gd lv m (h (Γ.over fs) p (hΓ.over fs)) (λa p' s' h'=>h' Γ p' rfl hΓ) (λx p' s' h'=>h' Γ p' rfl hΓ)
 exact ⟨e,s',hr,hq⟩
theorem dF {α β:Type} {m} {k:α->Sem β} {K} (h:wpAny M (A.over c fs) m (λa s'=>SegX M A c ((k a).wrap K H gd lv) fs s' P) (λx s'=>SegX M A c (H x) fs s' P) s):
  SegX M A c ((m >>= k).wrap K H gd lv) fs s P:=by
 rw [Sem.bind_eq_wrap',Sem.wrap_wrap];exact jG h
theorem Dz {p k} (h:SegX M A c (k ()) fs s P):SegX M A c (.at p k) fs s P:=
 jG (m:=standAt p) (K:=k) (H:= .raise) (gd:=id) (lv:=id) (wpAny_standAt h)
theorem Ac {l k} (h:SegX M A c (k ()) fs s P):SegX M A c (.point l k) fs s P:=
 jG (m:=point) (K:=k) (H:= .raise) (gd:=id) (lv:=λU=>l) (wpAny_point h)
theorem Co {c' hd g l k} (x:∀ p,SegX M A c' (M.den c') (.ret k hd g l c p []::fs) s P):SegX M A c (.call c' hd g l k) fs s P:=by
 rintro Γ p rfl hΓ
 obtain ⟨e,s',hr,hq⟩:=x p (Γ.goto c') p rfl (hΓ.goto c')
 exact ⟨e,s',runs_call_seg hr,hq⟩
theorem rj {c'} (hq:c'.quiet=true) (x:SegX M A c' (M.den c') fs s P):SegX M A c (.pure (.again c')) fs s P:=by
 rintro Γ p rfl hΓ
 obtain ⟨e,s',hr,hq'⟩:=x (Γ.goto c') p rfl (hΓ.goto c')
 exact ⟨e,s',Runs.head (c₁:=c') (λU U y=> .again hq y) hr,hq'⟩
theorem FB {r k hd g l c₁ p₁ kp} (x:SegX M A c₁ (k r) fs s P):SegX M A c (leafOf r) (.ret k hd g l c₁ p₁ kp::fs) s P:=by
 rintro Γ p rfl hΓ
 obtain ⟨e,s',hr,hq⟩:=x (Γ.goto c₁) p₁ rfl (hΓ.goto c₁)
 exact ⟨e,s',Runs.pop r hr,hq⟩
theorem Fy {r} (x:P (.ret r) s):SegX M A c (leafOf r) [] s P:=by
 rintro Γ p rfl _
 exact ⟨.ret r,s,Runs.leaf r,rfl,x⟩
theorem Ad {v g l k} (hfs:splitAtGen fs=none) (hg:g=false) (hfg:fs.any Frame.guarded=false) (x:∀ p,P (.susp v g l k c p fs) s):SegX M A c (.yield v g l k) fs s P:=by
 subst hg
 rintro Γ p rfl _
 exact ⟨_,s,Runs.yield' fs hfs,by simp [End.quiet,hfg],x p⟩
theorem FA (h:SegX M A c (K .next) fs s P):SegX M A c ((execs [] env).wrap K H gd lv) fs s P:=h
theorem Cp {st:Stmt} {rest:List Stmt} (h:SegX M A c ((exec st env).wrap (λf=>match f with | .next=>(execs rest env).wrap K H gd lv | f=>K f) H gd lv) fs s P):
  SegX M A c ((execs (st::rest) env).wrap K H gd lv) fs s P:=by rw [execs_cons_wrap];exact h
theorem It {t b o pos} (h:wpAny M (A.over c fs) (isTrue t env (eval t env)) (λr s'=>SegX M A c ((execs (if r=true then b else o) env).wrap K H gd lv) fs s' P) (λx s'=>SegX M A c (H x) fs s' P) s):
  SegX M A c ((exec (.If t b o pos) env).wrap K H gd lv) fs s P:=by
 rw [exec_If]
 refine dF (wpAny_standAt (dF (wpAny_mono h (λr s' h'=>?_) λU U x=>x)))
 cases r with
 | true=>simpa using h'
 | false=>simpa using h'
theorem Ab {e ypos pos} (hfs:splitAtGen fs=none) (hgd:gd false=false) (hfg:fs.any Frame.guarded=false) (hco:env.scope.isCoroutine=false) (hi:interactive env=false) (h:wpAny M (A.over c fs) (eval e env) (λv s'=>∀ (p:Pos) (k:Resume->Sem Fin) l,(k (.send .none)=K .next)->P (.susp v false l k c p fs) s') (λx s'=>SegX M A c (H x) fs s' P) s):
  SegX M A c ((exec (.Expr (.Yield (some e) ypos) pos) env).wrap K H gd lv) fs s P:=by
 rw [exec_Expr env _ pos hi rfl]
 show SegX M A c (.at pos λU=>((eval e env >>= λv=>(standAt ypos >>= λU=>yieldOut env v)) >>= λx=>
  dropValue (.Yield (some e) ypos) pos x).wrap K H gd lv) fs s P
 have hy:∀ v,yieldOut env v=yieldValue v:=λv=>by simp only [yieldOut,hco,Bool.false_eq_true,if_false]
 simp only [hy]
 refine Dz ?_
 rw [Sem.bind_eq_wrap',Sem.bind_eq_wrap',Sem.wrap_wrap,Sem.wrap_wrap]
 refine jG (wpAny_mono h (λv s' h'=>?_) λU U x=>x)
 refine Dz (Ad hfs hgd hfg λp=>?_)
 have:=h' p
 have e:((λg=>gd (id g)) false)=false:=hgd
 erw [e]
 exact this _ _ rfl
end
section
variable {prog:Program} {w:World} {A:Around} {fs:List Frame} {s:Shared} {P:End->Shared->Prop} {env:Env}
theorem Cq {body:List Stmt}
  (h:SegX (model prog w) A (.func body env) ((execs body env).wrap (λf=> .pure (.done (.ret (match f with | .ret v=>v | _=> .none))))
   (λe=>(leaving env e).wrap (λU=> .raise e) .raise id id) id id) fs s P):
  SegX (model prog w) A (.func body env) ((model prog w).den (.func body env)) fs s P:=by
 show SegX _ A _ (.point [] λU=>((execs body env).onRaise (leaving env)) >>= _) fs s P
 refine Ac ?_
 rw [Sem.onRaise_eq_wrap,Sem.bind_eq_wrap',Sem.wrap_wrap]
 rw [Sem.wrap_congr (execs body env) _ _ (K':=λf=> .pure (.done (.ret (match f with | .ret v=>v | _=> .none))))
  (H':=λe=>(leaving env e).wrap (λU=> .raise e) .raise id id) (λf=>by cases f <;> rfl)
  (λe=>by rw [Sem.bind_eq_wrap,Sem.wrap_wrap];rfl)]
 exact h
noncomputable def CU (env:Env) (K:Flow->Sem Fin) (H:Value->Sem Fin) (gd:Bool->Bool) (lv:List Value->List Value) (r:Result):Sem Fin:=
 ((
  match r with | .ok f=>(.pure f:Sem Flow) | .error e=> .raise e).onRaise λ(x:Value)=>do
  if (<-field x 1)==Value.none then unsupported "frame.own-activation:exception-without-traceback"
  setFlight x env.frame).wrap K H gd lv
theorem Fz {M c K H gd lv target iter body orelse pos} (h:wpAny M (A.over c fs) (eval iter env) (λx s₁=>wpAny M (A.over c fs) (pyIter x) (λit s₂=>∀ p,SegX M A (.forLoop target it body orelse env) (M.den (.forLoop target it body orelse env))
   (.ret (CU env K H gd lv) none (gd false) (lv []) c p []::fs) s₂ P) (λx s'=>SegX M A c (H x) fs s' P) s₁) (λx s'=>SegX M A c (H x) fs s' P) s) (hs:∀ x,foldedSetIterable iter env x=pure x):
  SegX M A c ((exec (.For target iter body orelse pos) env).wrap K H gd lv) fs s P:=by
 rw [exec_For]
 refine dF (wpAny_standAt (dF (wpAny_mono h (λx s₁ h₁=>?_) λU U x=>x)))
 refine dF (wpAny_of_eq (hs x) (dF (wpAny_standAt (dF (wpAny_holding (wpAny_mono h₁ (λit s₂ h₂=>?_) λU U x=>x))))))
 exact Co h₂
theorem mF {target:Expr} {it:Value} {body orelse:List Stmt}
  (h:wpAny (model prog w) (A.over (.forLoop target it body orelse env) fs) (pyNext it) (λr s₁=>match r with
   | none=>SegX (model prog w) A (.block orelse env) ((model prog w).den (.block orelse env)) fs s₁ P
   | some v=>wpAny (model prog w) (A.over (.forLoop target it body orelse env) fs) (letOwnedTupleGo target it v) (λU s₂=>wpAny (model prog w) (A.over (.forLoop target it body orelse env) fs) (assign target env v) (λU s₃=>
     ∀ H,SegX (model prog w) A (.forLoop target it body orelse env) ((execs body env).wrap (λf=>match f with
      | .next | .cont=> .pure (.again (.forLoop target it body orelse env))
      | .brk=> .pure (.done .next)
      | .ret v=> .pure (.done (.ret v))) H id id) fs s₃ P) (λU U=>False) s₂) (λU U=>False) s₁) (λU U=>False) s):
  SegX (model prog w) A (.forLoop target it body orelse env) ((model prog w).den (.forLoop target it body orelse env)) fs s P:=by
 show SegX _ A _ ((forTurn target it body orelse env).onRaise (λx=>do noteFrame x env;theTreesLotGoes x)) fs s P
 unfold forTurn
 rw [Sem.onRaise_eq_wrap]
 refine dF (wpAny_standAt (dF (wpAny_onRaise (wpAny_mono h (λr s₁ h₁=>?_) λU U x=>x.elim))))
 cases r with
 | none=>exact rj rfl h₁
 | some v=>
  refine dF (wpAny_mono h₁ (λU s₂ h₂=>?_) λU U x=>x.elim)
  refine dF (wpAny_mono h₂ (λU s₃ h₃=>?_) λU U x=>x.elim)
  rw [Sem.bind_eq_wrap',Sem.wrap_wrap]
  rw [Sem.wrap_congr (execs body env) _ _ (K':=λf=>match f with
      | .next | .cont=> .pure (.again (.forLoop target it body orelse env))
      | .brk=> .pure (.done .next)
      | .ret v=> .pure (.done (.ret v)))
   (λf=>by cases f <;> rfl) (λe=>rfl)]
  exact h₃ _
end
end
section
open PySem.W.X
noncomputable def er (st:List SV):Bool:=st.all fun
 | .u=>true
 | .d d=>d.flat
 | _=>false
noncomputable def rz (fc:FC):Bool:=decide ((fc.names.map (·.1)).Nodup)&&fc.names.all (λp=>p.2 != .free&&p.2 != .cell)&&fc.wn.isEmpty
structure FF (W:Wd) (fc:FC) (env:Env) (st:List SV) (s:Shared):Prop where
 gi:GI W s
 eo:cx fc env
 cl:env.cells=[]
 gL:W.G.get? env.locals=none
 hL:W.G.objs.size<=env.locals
 len:st.length=fc.names.length
 ex:∃ m,s.heap.Ns env.locals m/\∀ (i:Nat) (sv:SV),st[i]? =some sv->sv= .u∨∃ x v d,fc.names[i]? =some (x,.local)/\m x=some v/\sv= .d d/\d.flat=true/\Data W s.heap v d
noncomputable def rK (s:Shared) (L:Addr):List Addr:=(List.range s.heap.objs.size).filter λb=>(s.heap.get? b).isSome&&decide (b≠L)
theorem d6 {s L b}:b∈rK s L↔(∃ o,s.heap.get? b=some o)/\b≠L:=by
 unfold rK
 rw [List.mem_filter,List.mem_range]
 simp only [Bool.and_eq_true,Option.isSome_iff_exists,decide_eq_true_eq]
 exact ⟨λh=>h.2,λh=>⟨Heap.lt_size h.1.choose_spec,h⟩⟩
section
variable {n:Nat} {fc:FC} {env:Env} {κ:List Addr} {B:aN} {ω:List Addr} {st:List SV} {s s':Shared} {m cm:Str->Option Value}
theorem FF.inv (hg:rz fc=true) (x:FF W fc env st s):bD W fc env [] ⟨rK s env.locals,[]⟩ [env.locals] st s:=by
 obtain ⟨m,hn,hv⟩:=x.ex
 simp only [rz,Bool.and_eq_true,decide_eq_true_eq,List.all_eq_true,bne_iff_ne,ne_eq,List.isEmpty_iff] at hg
 obtain ⟨⟨nd,hk⟩,hw⟩:=hg
 have noOwn:∀ (i:Nat) (d:PV),st[i]? ≠some (.own d):=λi d e=>by
  rcases hv i _ e with q | ⟨_,_,_,_,_,q,_⟩ <;> w_cond q
 obtain ⟨oL,eL,hdL⟩:=aI hn
 refine ⟨m,λU=>none,{
  gi:=x.gi,eo:=x.eo,ns:=hn,lω:= .head _
  cells:=λy c h=>by rw [x.cl] at h;w_cond h
  inj:=λy z c h=>by rw [x.cl] at h;w_cond h
  cw:=λy h=>by rw [hw] at h;w_cond h
  κc:=λb h=>by w_cond h
  νμ:=λb h=>by w_cond h
  cν:=λy c h=>by rw [x.cl] at h;w_cond h
  cω:=λy c h=>by rw [x.cl] at h;w_cond h
  has:=λi y k h q=>by
   have:=hk _ (List.mem_of_getElem? h)
   rcases q with rfl | rfl
   ·exact absurd rfl this.2
   ·exact absurd rfl this.1
  vars:=λi sv h=>(hv i sv h).imp id λ⟨y,v,d,a,b,c,e,f⟩=>⟨(y,.local),v,a,rfl,b,by rw [c];exact Data.flat f e _⟩
  apart:=λi j d d' U U U h=>absurd h (noOwn i d)
  noL:=λi d U U h=>absurd h (noOwn i d)
  oω:=λi d U U h=>absurd h (noOwn i d)
  dj:=λb hb q=>(d6.mp q).2 (aE hb)
  nd:=nd,len:=x.len
  ex:=λb hb=>by
   simp only [aq,List.mem_append,List.mem_singleton,List.not_mem_nil,false_or] at hb
   rcases hb with h | rfl
   ·exact (d6.mp h).1
   ·exact ⟨oL,eL⟩
  nc:=λb hb o e=>by
   simp only [bw,List.mem_append,List.mem_singleton,List.not_mem_nil,false_or] at hb
   rw [hb,eL] at e;w_cond e;exact .of hdL
  gn:=λb hb=>by
   simp only [List.mem_append,List.mem_singleton,List.not_mem_nil,false_or] at hb
   erw [hb];exact x.gL
  hL:=x.hL }⟩
theorem FF.of_inv (hg:rz fc=true) (hc:env.cells=[]) (hG:W.G.get? env.locals=none) (hhL:W.G.objs.size<=env.locals) (hf:er st=true) (x:bD W fc env κ B ω st s):FF W fc env st s:=by
 obtain ⟨m,cm,x⟩:=x
 refine ⟨x.gi,x.eo,hc,hG,hhL,x.len,m,x.ns,λi sv h=>?_⟩
 have hf':=List.all_eq_true.mp hf sv (List.mem_of_getElem? h)
 rcases x.vars i sv h with q | ⟨xk,v,a,b,c,d⟩
 ·exact .inl q
 ·cases sv with
  | u=>exact .inl rfl
  | d d'=>
   refine .inr ⟨xk.1,v,d',?_,?_,rfl,hf',Data.sub (av _ _ _) d⟩
   ·obtain ⟨y,k⟩:=xk
    simp only [rz,Bool.and_eq_true,List.all_eq_true,bne_iff_ne,ne_eq] at hg
    have:=hg.1.2 _ (List.mem_of_getElem? a)
    cases k <;> first | exact a | exact absurd rfl this.1 | exact absurd rfl this.2 | w_cond b
   ·obtain ⟨y,k⟩:=xk
    simp only [rz,Bool.and_eq_true,List.all_eq_true,bne_iff_ne,ne_eq] at hg
    have:=hg.1.2 _ (List.mem_of_getElem? a)
    cases k <;> first | exact c | exact absurd rfl this.1 | exact absurd rfl this.2 | w_cond b
  | _=>w_cond hf'
theorem FF.move (x:FF W fc env st s) (g:GI W s') (h:∀ o,s.heap.get? env.locals=some o->s'.heap.get? env.locals=some o):FF W fc env st s':=by
 obtain ⟨m,hn,hv⟩:=x.ex
 exact ⟨g,x.eo,x.cl,x.gL,x.hL,x.len,m,hn.at' h,λi sv e=>(hv i sv e).imp id λ⟨y,v,d,a,b,c,e,f⟩=>⟨y,v,d,a,b,c,e,Data.flat f e _⟩⟩
end
def rH (M:Model) (A:Around) (gs:GenState) (s:Shared) (P:End->Shared->Prop):Prop:=match gs with
 | .fresh c=>SegX M A c (M.den c) [] s P
 | .suspended k _ c _ fs _=>SegX M A c (k (.send .none)) fs s P
 | _=>False
noncomputable def GP (W:Wd) (n:Nat) (L:Addr):List PV->List Addr->List Nat->Shared->GenState->Prop
 | [],Is,Js,s,gs=>∀ (A:Around) (s₁:Shared),cf (n+1) A->GI W s₁->(∀ b∈L::Is,∀ o,s.heap.get? b=some o->s₁.heap.get? b=some o)->(∀ b,s₁.heap.get? b=none->s.heap.get? b=none)->(∀ j∈Js,∀ x,s.gens[j]? =some x->s₁.gens[j]? =some x)->
   rH W.M A gs s₁ (λe s'=>e= .ret (.ok (.ret .none))/\eX W (L::Is) Js s₁ s')
 | y::ys,Is,Js,s,gs=>∀ (A:Around) (s₁:Shared),cf (n+1) A->GI W s₁->(∀ b∈L::Is,∀ o,s.heap.get? b=some o->s₁.heap.get? b=some o)->(∀ b,s₁.heap.get? b=none->s.heap.get? b=none)->(∀ j∈Js,∀ x,s.gens[j]? =some x->s₁.gens[j]? =some x)->
   rH W.M A gs s₁ (λe s'=>∃ v l k c p fs Is' Js',e= .susp v false l k c p fs/\eX W (L::Is) Js s₁ s'/\(∀ b∈Is',b∈Is∨s₁.heap.get? b=none)/\(∀ j∈Js',j∈Js∨s₁.gens[j]? =none)/\iB s' (L::Is)/\iB s' (L::Is')/\
    (∀ X:List Addr,(∀ b∈X,b=L∨b∈Is'∨∃ o,s₁.heap.get? b=some o)->Data W (fz W s'.heap X) v y)/\GP W n L ys Is' Js' s' (.suspended k l c p fs (fs.any Frame.guarded)))
def Es (W:Wd) (n:Nat) (L:Addr) (ys:List PV) (Is:List Addr) (Js:List Nat) (s₁:Shared) (e:End) (s':Shared):Prop:=match ys with
 | []=>e= .ret (.ok (.ret .none))/\eX W (L::Is) Js s₁ s'
 | y::ys=>∃ v l k c p fs Is' Js',e= .susp v false l k c p fs/\eX W (L::Is) Js s₁ s'/\(∀ b∈Is',b∈Is∨s₁.heap.get? b=none)/\(∀ j∈Js',j∈Js∨s₁.gens[j]? =none)/\iB s' (L::Is)/\iB s' (L::Is')/\
    (∀ X:List Addr,(∀ b∈X,b=L∨b∈Is'∨∃ o,s₁.heap.get? b=some o)->Data W (fz W s'.heap X) v y)/\GP W n L ys Is' Js' s' (.suspended k l c p fs (fs.any Frame.guarded))
theorem ln {n L ys Is Js s gs}:GP W n L ys Is Js s gs↔∀ (A:Around) (s₁:Shared),cf (n+1) A->GI W s₁->(∀ b∈L::Is,∀ o,s.heap.get? b=some o->s₁.heap.get? b=some o)->(∀ b,s₁.heap.get? b=none->s.heap.get? b=none)->(∀ j∈Js,∀ x,s.gens[j]? =some x->s₁.gens[j]? =some x)->
   rH W.M A gs s₁ (Es W n L ys Is Js s₁):=by
 cases ys <;> rfl
structure At (W:Wd) (n:Nat) (fc:FC) (env:Env) (A:Around) (s₁ s:Shared) (Is₁ Is:List Addr) (Js₁ Js:List Nat) (st:List SV):Prop where
 ok:cf (n+1) A
 ff:FF W fc env st s
 gr:eX W (env.locals::Is₁) Js₁ s₁ s
 is:∀ b∈Is,b∈Is₁∨s₁.heap.get? b=none
 js:∀ j∈Js,j∈Js₁∨s₁.gens[j]? =none
 e1:iB s Is₁
 e2:iB s Is
 l1:env.locals∉Is₁
 l2:env.locals∉Is
 lx:∃ o,s₁.heap.get? env.locals=some o
 g1:GI W s₁
 t1:∀ b∈Is₁,b∉W.T
theorem At.t2 {n fc env A s₁ s Is₁ Is Js₁ Js st} (a:At W n fc env A s₁ s Is₁ Is Js₁ Js st):∀ b∈Is,b∉W.T:=λb hb=>(a.is b hb).elim (a.t1 b) λh=>a.g1.fresh h
def CK (W:Wd) (n:Nat) (fc:FC) (env:Env) (X:List Addr->List Nat->Shared->Prop) (c:Code) (t:Sem PySem.Fin) (fs:List Frame) (st:List SV) (ys:List PV):Prop:=
 ∀ (A:Around) (s₁ s:Shared) (Is₁ Is:List Addr) (Js₁ Js:List Nat),At W n fc env A s₁ s Is₁ Is Js₁ Js st->X Is Js s->SegX W.M A c t fs s (Es W n env.locals ys Is₁ Js₁ s₁)
def FS (X:List Addr->List Nat->Shared->Prop):Prop:=∀ (Is:List Addr) (Js:List Nat) (s s':Shared),X Is Js s->(∀ b∈Is,∀ o,s.heap.get? b=some o->s'.heap.get? b=some o)->(∀ j∈Js,∀ x,s.gens[j]? =some x->s'.gens[j]? =some x)->(∀ b,s'.heap.get? b=none->s.heap.get? b=none)->X Is Js s'
section
variable {n:Nat} {fc:FC} {env:Env} {st:List SV} {X:List Addr->List Nat->Shared->Prop} {c:Code} {fs:List Frame} {K:Flow->Sem PySem.Fin} {H:Value->Sem PySem.Fin} {gd:Bool->Bool} {lv:List Value->List Value} {ys:List PV}
theorem iB.upto {s s' Y L} (x:iB s Y) (gi:GI W s) (gi':GI W s') (k:Kp (W.T++[L]) s.heap s'.heap) (h:L∉Y):iB s' Y:=λb hb=>by
 obtain ⟨o,e,hn⟩:=x b hb
 by_cases hT:b∈W.T
 ·obtain ⟨ps,e'⟩:=gi'.tab.fields hT
  exact ⟨_,e',dw gi' hT e'⟩
 ·exact ⟨o,k b o (λq=>(aw q).elim hT λq=>h (aE q ▸ hb)) e,hn⟩
theorem xg (h:CK W n fc env X c (K .next) fs st ys):CK W n fc env X c ((execs [] env).wrap K H gd lv) fs st ys:=
 λA s₁ s Is₁ Is Js₁ Js a x=>FA (h A s₁ s Is₁ Is Js₁ Js a x)
theorem tR {sm:Stmt} {rest:List Stmt} (h:CK W n fc env X c ((exec sm env).wrap (λf=>match f with | .next=>(execs rest env).wrap K H gd lv | f=>K f) H gd lv) fs st ys):
  CK W n fc env X c ((execs (sm::rest) env).wrap K H gd lv) fs st ys:=λA s₁ s Is₁ Is Js₁ Js a x=>Cp (h A s₁ s Is₁ Is Js₁ Js a x)
theorem At.step {A s₁ s s' Is₁ Is Js₁ Js st'} (a:At W n fc env A s₁ s Is₁ Is Js₁ Js st) (g:bR W [] [env.locals] s s') (f:FF W fc env st' s'):At W n fc env A s₁ s' Is₁ Is Js₁ Js st':=by
 have kk:Kp (W.T++[env.locals]) s.heap s'.heap:=g.kp
 have hlx:∃ o,s'.heap.get? env.locals=some o:=by
  obtain ⟨m,hn,_⟩:=f.ex
  obtain ⟨o,e,_⟩:=aI hn
  exact ⟨o,e⟩
 exact { a with
  ff:=f
  gr:=⟨λb o nb e=>g.kp b o (λq=>nb (by
    rcases aw q with q | q
    ·exact cY _ q
    ·rw [show b=env.locals by simpa using q];exact lR _ (.head _))) (a.gr.kp b o nb e),
   λU=>f.gi,λi x ni e=>g.gens i x (a.gr.gens i x ni e),g.os.trans a.gr.os,λb nb e=>a.gr.dom b nb (g.dom b e)⟩
  e1:=a.e1.upto a.ff.gi f.gi kk a.l1
  e2:=a.e2.upto a.ff.gi f.gi kk a.l2 }
theorem xh {sm f st'} (hg:rz fc=true) (hov:∀ A,cf (n+1) A->cf n (A.over c fs)) (hX:FS X) (hf:SX W n fc sm f) (h1:f st=some (st',.next)) (hfl:er st'=true) (h:CK W n fc env X c (K .next) fs st' ys):
  CK W n fc env X c ((exec sm env).wrap K H gd lv) fs st ys:=λA s₁ s Is₁ Is Js₁ Js a x=>by
 refine jG (wpAny_mono (hf _ env [] _ _ st s _ (hov A a.ok) (a.ff.inv hg) h1) (λfl s' y=>?_) λU U q=>q.elim)
 obtain ⟨g,rfl,ω',z,_⟩:=y
 have f':=FF.of_inv hg a.ff.cl a.ff.gL a.ff.hL hfl z
 have a':=a.step g f'
 refine h A s₁ s' Is₁ Is Js₁ Js a' (hX Is Js s s' x (λb hb o e=>?_) (λj U y e=>g.gens j y e) g.dom)
 exact g.kp b o (λq=>(aw q).elim (a.t2 b hb) λq=>a.l2 ((show b=env.locals by simpa using q) ▸ hb)) e
theorem GY {t b o pos f r} (hg:rz fc=true) (hov:∀ A,cf (n+1) A->cf n (A.over c fs)) (hX:FS X) (hf:ST W n fc t f) (h1:f st=some r) (h:CK W n fc env X c ((execs (if r=true then b else o) env).wrap K H gd lv) fs st ys):CK W n fc env X c ((exec (.If t b o pos) env).wrap K H gd lv) fs st ys:=λA s₁ s Is₁ Is Js₁ Js a x=>by
 refine It (wpAny_mono (hf _ env [] _ _ st s _ (hov A a.ok) (a.ff.inv hg) h1) (λr' s' y=>?_) λU U q=>q.elim)
 obtain ⟨rfl,g⟩:=y
 have a':=a.step (bR.of_gr g) (a.ff.move (g.gi a.ff.gi) λo e=>by
  obtain ⟨m,hn,_⟩:=a.ff.ex
  obtain ⟨o',e',hd⟩:=aI hn
  erw [e] at e';w_cond e'
  exact g.kp _ _ (a.ff.gi.notin e hd) e)
 exact h A s₁ s' Is₁ Is Js₁ Js a' (hX Is Js s s' x (λb hb o e=>g.kp b o (a.t2 b hb) e) (λj U y e=>g.gens j y e) g.dom)
theorem xi {e ypos pos f y} (hg:rz fc=true) (hov:∀ A,cf (n+1) A->cf n (A.over c fs)) (hX:FS X) (hf:SE W n fc e f) (h1:f st=some (.d y)) (hfs:splitAtGen fs=none) (hgd:gd false=false) (hfg:fs.any Frame.guarded=false) (hco:env.scope.isCoroutine=false) (h:CK W n fc env X c (K .next) fs st ys):CK W n fc env X c ((exec (.Expr (.Yield (some e) ypos) pos) env).wrap K H gd lv) fs st (y::ys):=λA s₁ s Is₁ Is Js₁ Js a x=>by
 refine Ab hfs hgd hfg hco (by unfold interactive;erw [a.ff.eo.kind];rfl) (wpAny_mono (hf _ env [] _ _ st s _ (hov A a.ok) (a.ff.inv hg) h1) (λv s' z p k l hk=>?_) λU U q=>q.elim)
 obtain ⟨dv,g⟩:=z
 have a':=a.step (bR.of_gr g) (a.ff.move (g.gi a.ff.gi) λo e=>by
  obtain ⟨m,hn,_⟩:=a.ff.ex
  obtain ⟨o',e',hd⟩:=aI hn
  rw [e] at e';w_cond e'
  exact g.kp _ _ (a.ff.gi.notin e hd) e)
 have x':=hX Is Js s s' x (λb hb o e=>g.kp b o (a.t2 b hb) e) (λj U y e=>g.gens j y e) g.dom
 have exL:∃ o,s'.heap.get? env.locals=some o/\dq o:=by
  obtain ⟨m,hn,_⟩:=a'.ff.ex
  obtain ⟨o',e',hd⟩:=aI hn
  exact ⟨o',e',.of hd⟩
 have exC:∀ Y,iB s' Y->iB s' (env.locals::Y):=λY hY b hb=>by
  rcases aX hb with rfl | hb
  ·exact exL
  ·exact hY b hb
 refine ⟨v,l,k,c,p,fs,Is,Js,rfl,a'.gr,a'.is,a'.js,exC _ a'.e1,exC _ a'.e2,λY hY=>?_,?_⟩
 ·refine Data.sub (aG λb hb=>?_) dv
  have hex:(∃ o,s.heap.get? b=some o)->b∈aq ⟨rK s env.locals,[]⟩ [] [env.locals]:=λq=>by
   simp only [aq,List.mem_append,List.mem_singleton,List.not_mem_nil,false_or]
   by_cases e:b=env.locals
   ·exact .inr e
   ·exact .inl (d6.mpr ⟨q,e⟩)
  rcases hY b hb with rfl | q | ⟨o,q⟩
  ·simp [aq]
  ·obtain ⟨o,e,_⟩:=a.e2 b q
   exact hex ⟨o,e⟩
  ·by_cases w:b∈env.locals::Is₁
   ·rcases aX w with rfl | w
    ·simp [aq]
    ·obtain ⟨o,e,_⟩:=a.e1 b w
     exact hex ⟨o,e⟩
   ·refine hex ?_
    cases e:s.heap.get? b with
    | none=>rw [a.gr.dom b w e] at q;w_cond q
    | some o=>exact ⟨o,rfl⟩
 ·rw [ln]
  intro A2 s2 ok2 gi2 hI hdom hJ
  show SegX W.M A2 c (k (.send .none)) fs s2 _
  erw [hk]
  have ff2:FF W fc env st s2:=a'.ff.move gi2 λo e=>hI _ (.head _) o e
  refine h A2 s2 s2 Is Is Js Js ⟨ok2,ff2,eX.of_gr (Gr.refl _ _),λb hb=> .inl hb,λj hj=> .inl hj,?_,?_,a.l2,a.l2,?_,gi2,a.t2⟩ (hX Is Js s' s2 x' (λb hb=>hI b (.tail _ hb)) hJ hdom)
  ·exact λb hb=>let ⟨o,e,hn⟩:=a'.e2 b hb;⟨o,hI b (.tail _ hb) o e,hn⟩
  ·exact λb hb=>let ⟨o,e,hn⟩:=a'.e2 b hb;⟨o,hI b (.tail _ hb) o e,hn⟩
  ·obtain ⟨o,e,_⟩:=exL
   exact ⟨o,hI _ (.head _) o e⟩
end
end
section
open PySem.W.X
def Ga (n:Nat) (c:Code) (fs:List Frame):Prop:=(∀ A,cf (n+1) A->cf n (A.over c fs))/\splitAtGen fs=none/\fs.any Frame.guarded=false
def GX (W:Wd) (n:Nat) (fc:FC) (sm:Stmt) (f:List SV->Option (List PV×List SV)):Prop:=
 ∀ (env:Env) (c:Code) (fs:List Frame) (K:Flow->Sem PySem.Fin) (H:Value->Sem PySem.Fin) (gd:Bool->Bool) (lv:List Value->List Value) (st:List SV) (ys:List PV) (st':List SV) (rest:List PV) (X:List Addr->List Nat->Shared->Prop),env.scope.isCoroutine=false->FS X->Ga n c fs->gd false=false->f st=some (ys,st')->CK W n fc env X c (K .next) fs st' rest->CK W n fc env X c ((exec sm env).wrap K H gd lv) fs st (ys++rest)
def GB (W:Wd) (n:Nat) (fc:FC) (b:List Stmt) (f:List SV->Option (List PV×List SV)):Prop:=
 ∀ (env:Env) (c:Code) (fs:List Frame) (K:Flow->Sem PySem.Fin) (H:Value->Sem PySem.Fin) (gd:Bool->Bool) (lv:List Value->List Value) (st:List SV) (ys:List PV) (st':List SV) (rest:List PV) (X:List Addr->List Nat->Shared->Prop),env.scope.isCoroutine=false->FS X->Ga n c fs->gd false=false->f st=some (ys,st')->CK W n fc env X c (K .next) fs st' rest->CK W n fc env X c ((execs b env).wrap K H gd lv) fs st (ys++rest)
noncomputable def Ez (f g:List SV->Option (List PV×List SV)) (st:List SV):Option (List PV×List SV):=(f st).bind λp=>(g p.2).map λq=>(p.1++q.1,q.2)
noncomputable def KX (f:List SV->Option (List SV×Fl)) (st:List SV):Option (List PV×List SV):=(y6 (f st)).bind λst'=>if er st' then some ([],st') else none
noncomputable def Hk (f:List SV->Option SV) (st:List SV):Option (List PV×List SV):=(dy (f st)).map λy=>([y],st)
noncomputable def ql (ftg:List SV->PV->Option (List SV)) (fb:List SV->Option (List PV×List SV)):List PV->List SV->Option (List PV×List SV)
 | [],st=>some ([],st)
 | x::xs,st=>(ftg st x).bind λst1=>if er st1 then (fb st1).bind λp=>(ql ftg fb xs p.2).map λq=>(p.1++q.1,q.2) else none
section
variable {n:Nat} {fc:FC} {env:Env} {κ:List Addr} {B:aN} {ω:List Addr} {st:List SV} {s s':Shared} {m cm:Str->Option Value}
theorem iQ:GB W n fc [] (λst=>some ([],st)):=by
 intro env c fs K H gd lv st ys st' rest X hco hX hF hgd h hk
 w_cond h;exact xg hk
theorem f9 {sm b f g} (hf:GX W n fc sm f) (hg:GB W n fc b g):GB W n fc (sm::b) (Ez f g):=by
 intro env c fs K H gd lv st ys st' rest X hco hX hF hgd h hk
 obtain ⟨p,h1,h⟩:=ah h
 obtain ⟨q,h2,h⟩:=aA h
 w_cond h
 erw [kr]
 exact tR (hf env c fs _ H gd lv st p.1 p.2 _ X hco hX hF hgd h1 (hg env c fs K H gd lv p.2 q.1 q.2 rest X hco hX hF hgd h2 hk))
theorem jb {sm f} (hgf:rz fc=true) (hf:SX W n fc sm f):GX W n fc sm (KX f):=by
 intro env c fs K H gd lv st ys st' rest X hco hX hF hgd h hk
 obtain ⟨st1,h1,h⟩:=ah h
 obtain ⟨hfl,h⟩:=bI h
 w_cond h
 exact xh hgf hF.1 hX hf (vL h1) hfl hk
theorem ww {t b o pos ft fb fo} (hgf:rz fc=true) (ht:ST W n fc t ft) (hb:GB W n fc b fb) (ho:GB W n fc o fo):
  GX W n fc (.If t b o pos) (λst=>(ft st).bind λr=>if r then fb st else fo st):=by
 intro env c fs K H gd lv st ys st' rest X hco hX hF hgd h hk
 obtain ⟨r,h1,h⟩:=ah h
 refine GY hgf hF.1 hX ht h1 ?_
 cases r with
 | true=>exact hb env c fs K H gd lv st ys st' rest X hco hX hF hgd (by simpa using h) hk
 | false=>exact ho env c fs K H gd lv st ys st' rest X hco hX hF hgd (by simpa using h) hk
theorem lr {e ypos pos f} (hgf:rz fc=true) (hf:SE W n fc e f):GX W n fc (.Expr (.Yield (some e) ypos) pos) (Hk f):=by
 intro env c fs K H gd lv st ys st' rest X hco hX hF hgd h hk
 obtain ⟨y,h1,h⟩:=aA h
 w_cond h
 exact xi hgf hF.1 hX hf (c7 h1) hF.2.1 hgd hF.2.2 hco hk
theorem At.stepI {A s₁ s s' Is₁ Is Js₁ Js I J} (a:At W n fc env A s₁ s Is₁ Is Js₁ Js st) (hI:∀ b∈I,b∈Is) (hJ:∀ j∈J,j∈Js) (k:eX W I J s s') (e1:iB s' I) (I') (J') (hI':∀ b∈I',b∈I∨s.heap.get? b=none) (hJ':∀ j∈J',j∈J∨s.gens[j]? =none) (e2:iB s' I'):
  At W n fc env A s₁ s' Is₁ (I'++Is) Js₁ (J'++Js) st:=by
 have gi':=k.gi a.ff.gi
 obtain ⟨m,hn,_⟩:=id a.ff.ex
 obtain ⟨oL,eL,hdL⟩:=aI hn
 have hLI:env.locals∉I:=λq=>a.l2 (hI _ q)
 have upto:∀ Y,iB s Y->iB s' Y:=λY x b hb=>by
  by_cases hbI:b∈I
  ·exact e1 b hbI
  ·obtain ⟨o,e,hn⟩:=x b hb
   by_cases hT:b∈W.T
   ·obtain ⟨ps,e'⟩:=gi'.tab.fields hT
    exact ⟨_,e',dw gi' hT e'⟩
   ·exact ⟨o,k.kp b o (λq=>(aw q).elim hT hbI) e,hn⟩
 have fromI:∀ b∈I,b∈Is₁∨s₁.heap.get? b=none:=λb hb=>a.is b (hI b hb)
 have freshI:∀ b,s.heap.get? b=none->b∈Is₁∨s₁.heap.get? b=none:=λb e=>by
  by_cases w:b∈env.locals::Is₁
  ·rcases aX w with rfl | w
   ·rw [eL] at e;w_cond e
   ·exact .inl w
  ·exact .inr (a.gr.dom b w e)
 have freshJ:∀ j,s.gens[j]? =none->j∈Js₁∨s₁.gens[j]? =none:=λj e=>by
  by_cases w:j∈Js₁
  ·exact .inl w
  ·refine .inr ?_
   cases q:s₁.gens[j]? with
   | none=>rfl
   | some x=>rw [a.gr.gens j x w q] at e;w_cond e
 refine { a with
  ff:=a.ff.move gi' λo e=>k.kp _ _ (λq=>(aw q).elim (by rw [eL] at e;w_cond e;exact a.ff.gi.notin eL hdL) hLI) e
  gr:=⟨λb o nb e=>?_,λU=>gi',λi x ni e=>?_,k.os.trans a.gr.os,λb nb e=>?_⟩
  is:=λb hb=>?_
  js:=λj hj=>?_
  e1:=upto _ a.e1
  e2:=λb hb=>(aw hb).elim (e2 b) (upto _ a.e2 b)
  l2:=λq=>(aw q).elim (λq=>(hI' _ q).elim hLI λq=>by rw [eL] at q;w_cond q) a.l2 }
 ·refine k.kp b o (λq=>(aw q).elim (λq=>nb (cY _ q)) λq=>?_) (a.gr.kp b o nb e)
  rcases fromI b q with q | q
  ·exact nb (lR _ (.tail _ q))
  ·rw [q] at e;w_cond e
 ·have e':=a.gr.gens i x ni e
  refine k.gens i x (λq=>?_) e'
  rcases a.js i (hJ i q) with q | q
  ·exact ni q
  ·rw [q] at e;w_cond e
 ·by_cases hbI:b∈I
  ·obtain ⟨o,e',_⟩:=e1 b hbI
   rw [e] at e';w_cond e'
  ·exact a.gr.dom b nb (k.dom b hbI e)
 ·rcases aw hb with q | q
  ·exact (hI' b q).elim (fromI b) (freshI b)
  ·exact a.is b q
 ·rcases aw hj with q | q
  ·exact (hJ' j q).elim (λq=>a.js j (hJ j q)) (freshJ j)
  ·exact a.js j q
theorem FF.inv' {μ} (hg:rz fc=true) (x:FF W fc env st s) (hμ:Ex s μ) (hL:env.locals∉μ):bD W fc env [] ⟨μ,[]⟩ [env.locals] st s:=by
 have y:=x.inv hg
 refine y.less (λb hb=>?_) (λb hb=>by w_cond hb) (λb hb=>by w_cond hb)
 exact d6.mpr ⟨hμ b hb,λq=>hL (q ▸ hb)⟩
end
end
section
open PySem.W.X
section
variable {prog:Program} {w:World} {A:Around} {E:Value->Shared->Prop} {s:Shared}
theorem Cm {ascii:Bool} {it x t i Q} (hh:A.handled=none) (hit:s.heap.IsStrIter it (if ascii then "str_ascii_iterator" else "str_iterator") x t i) (hx:x.cps[i]? =none) (hE:∀ h' e,Heap.ExtBut it s.heap h'->(∃ o,h'.get? e=some o/\o.cls= .type "StopIteration")->(∃ o,h'.get? it=some o/\dq o)->E (.ref e) { s with heap:=h' }):
  wpAny (model prog w) A (Builtin.SmallTypes.nextOf (.ref it)) Q E s:=by
 w_cond ascii
 all_goals
  obtain ⟨o,ho,hc,hd⟩:=id hit
  first
   | refine wpAny_bind (wpAny_callSpecial?_slot (name:=Str.ofString "__next__") hit.typeIs F.slot_str_ascii_iterator_next
     (wpAny_call_entry F.slot_str_ascii_iterator_next hit.typeIs F.entry_str_ascii_iterator_next ?_ (F.args_str_ascii_iterator_next_1 _)))
   | refine wpAny_bind (wpAny_callSpecial?_slot (name:=Str.ofString "__next__") hit.typeIs F.slot_str_iterator_next
     (wpAny_call_entry F.slot_str_iterator_next hit.typeIs F.entry_str_iterator_next ?_ (F.args_str_iterator_next_1 _)))
  show wpAny _ _ (field (.ref it) 0 >>= _) _ _ s
  refine wpAny_bind (wpAny_field ho hd (x:= .str x t) rfl ?_)
  show wpAny _ _ (field (.ref it) 1 >>= _) _ _ s
  refine wpAny_bind (wpAny_field ho hd (x:= .int i 0) rfl ?_)
  simp only [Int.toNat_natCast,hx]
  refine wpAny_bind (wpAny_rule (wpAny_bind (wpAny_setField ho hd (by simp) (wpAny_bind (wpAny_letGo ?_)))))
  refine wpAny_bind ?_
  refine wpAny_bind (wpAny_newObj_type ?_ (by size_fits))
  refine wpAny_bind (m:=firstArgMember _ _) (wpAny_of_eq (a:=Value.none) (by first | rfl | (simp only [firstArgMember];rfl)) ?_)
  refine wpAny_newObj_type ?_ (by size_fits)
  refine wpAny_bind (wpAny_handled ?_)
  first | erw [show A.in1.handled=none from hh] | rw [hh]
  refine wpAny_bind (wpAny_pure (wpAny_throw ?_))
  refine hE _ _ (((Heap.SameBut.update ..).extBut.push _).push _) ⟨_,Heap.get?_push_size _ rfl,rfl⟩ ⟨_,Heap.get?_push_of_some _ (Heap.get?_push_of_some _ (Heap.get?_update_self _ ho (Obj.isFreed_of_fields (Obj.data_mapFields hd _)))),?_⟩
  intro vs q u e
  rw [Obj.data_mapFields hd] at e
  w_cond e
  simp
end
noncomputable def jc (W:Wd) (n:Nat) (tgt:Expr) (it:Value):List PV->List Addr->List Nat->Shared->Prop
 | [],I,J,s=>∀ (A:Around) (s₁:Shared),cf n A->GI W s₁->(∀ b∈I,∀ o,s.heap.get? b=some o->s₁.heap.get? b=some o)->(∀ j∈J,∀ x,s.gens[j]? =some x->s₁.gens[j]? =some x)->
   (∀ b,s₁.heap.get? b=none->s.heap.get? b=none)->
   wpAny W.M A (pyNext it) (λr s₂=>r=none/\eX W I J s₁ s₂/\iB s₂ I) (λU U=>False) s₁
 | x::xs,I,J,s=>∀ (A:Around) (s₁:Shared),cf n A->GI W s₁->(∀ b∈I,∀ o,s.heap.get? b=some o->s₁.heap.get? b=some o)->(∀ j∈J,∀ x,s.gens[j]? =some x->s₁.gens[j]? =some x)->
   (∀ b,s₁.heap.get? b=none->s.heap.get? b=none)->
   wpAny W.M A (pyNext it) (λr s₂=>∃ v,r=some v/\wpAny W.M A (letOwnedTupleGo tgt it v) (λU s₃=>∃ I' J',(∀ μ,Ex s₁ μ->(∀ b∈I,b∈μ)->Data W (fz W s₃.heap (I'++μ)) v x)/\eX W I J s₁ s₃/\
    (∀ b∈I',b∈I∨s₁.heap.get? b=none)/\iB s₃ I/\iB s₃ I'/\(∀ j∈J',j∈J∨s₁.gens[j]? =none)/\jc W n tgt it xs I' J' s₃) (λU U=>False) s₂) (λU U=>False) s₁
section
variable {n:Nat} {fc:FC} {env:Env} {κ:List Addr} {B:aN} {ω:List Addr} {st:List SV} {s s':Shared} {m cm:Str->Option Value}
theorem jc.move {tgt it xs I J} (x:jc W n tgt it xs I J s) (h1:∀ b∈I,∀ o,s.heap.get? b=some o->s'.heap.get? b=some o) (h2:∀ j∈J,∀ g,s.gens[j]? =some g->s'.gens[j]? =some g) (h3:∀ b,s'.heap.get? b=none->s.heap.get? b=none):jc W n tgt it xs I J s':=by
 cases xs with
 | nil=>exact λA s₁ hA g a b c=>x A s₁ hA g (λq hq o e=>a q hq o (h1 q hq o e)) (λj hj y e=>b j hj y (h2 j hj y e)) (λq e=>h3 q (c q e))
 | cons d xs=>exact λA s₁ hA g a b c=>x A s₁ hA g (λq hq o e=>a q hq o (h1 q hq o e)) (λj hj y e=>b j hj y (h2 j hj y e)) (λq e=>h3 q (c q e))
set_option tactic.hygienic true in
theorem jc.enumStr {elts kk p e it l t} (hne:e≠it) (hG:W.G.get? e=none/\W.G.get? it=none):
  ∀ (k i:Nat) (s:Shared) (xs:List PV),i + k=l.length->xs=(l.drop i).map (λc=> .str [c])->(∃ old,IsEnum s.heap e it i old)->s.heap.IsStrIter it (strIterType (bM l)) (bM l) t i->jc W n (.Tuple elts kk p) (.ref e) (en i xs) [e,it] [] s:=by
 have nc:∀ {h:Heap} {i:Int} {old:Value},IsEnum h e it i old->∃ oa,h.get? e=some oa/\eF oa:=λhe=>⟨_,he,c8 rfl rfl (by decide) (by simp)⟩
 have hSt:∀ {i:Nat} {h:Heap},h.IsStrIter it (strIterType (bM l)) (bM l) t i->∃ o,h.get? it=some o/\eF o:=λhs=>by
  obtain ⟨o,q1,q2,q3⟩:=hs
  refine ⟨o,q1,c8 q2 q3 ?_ (by simp)⟩
  unfold strIterType;split <;> decide
 haveI hD:∀ A:Around,A.handled=none->Draws W.prog W.w A it [it] l.length (λi v=>∃ c u,(bM l).cps[i]? =some c/\v= .str ⟨#[c]⟩ u) (λi h=>h.IsStrIter it (strIterType (bM l)) (bM l) t i):=λA hA=>by
  unfold strIterType
  split
  ·have:=Draws.strAscii (prog:=W.prog) (w:=W.w) hA it (bM l) t
   simpa using this
  ·have:=Draws.strWide (prog:=W.prog) (w:=W.w) hA it (bM l) t
   simpa using this
 intro k
 induction k with
 | zero=>
  intro i s xs hk hx he hst
  have hi:i=l.length:=by w_fin
  subst hi
  erw [hx,List.drop_length]
  intro A s₁ hA gi hI _ _
  obtain ⟨old,he⟩:=he
  have he₁:IsEnum s₁.heap e it l.length old:=hI e (.head _) _ he
  have hst₁:s₁.heap.IsStrIter it (strIterType (bM l)) (bM l) t l.length:=by
   obtain ⟨o,ho,r⟩:=hst
   exact ⟨o,hI it (.tail _ (.head _)) o ho,r⟩
  have hT:s₁.TypeIs (.ref e) "enumerate":=⟨_,he₁,rfl⟩
  refine wpAny_bind (wpAny_attempt (wpAny_callSpecial?_slot (name:=Str.ofString "__next__") hT F.slot_enumerate_next
   (wpAny_call_entry F.slot_enumerate_next hT F.entry_enumerate_next ?_ (F.args_enumerate_next_1 _))))
  show wpAny _ _ (field (.ref e) 2 >>= _) _ _ _
  refine wpAny_bind (wpAny_field he₁ rfl (x:= .ref it) rfl ?_)
  haveI hst2:s₁.heap.IsStrIter it (if (strIterType (bM l)=="str_ascii_iterator") then "str_ascii_iterator" else "str_iterator") (bM l) t l.length:=by
   unfold strIterType at hst₁ ⊢
   split at hst₁ <;> rename_i hc <;> simp only [hc,Bool.false_eq_true,if_true,if_false] <;> exact hst₁
  refine wpAny_bind (Cm hA.hd hst2 (by simp) λh' x he' hx' hit'=>?_)
  obtain ⟨o,ho,hc⟩:=hx'
  refine wpAny_bind (wpAny_isInstance (T:="StopIteration") (b:=true) ⟨o,ho,hc⟩ isSubtype_stop ?_)
  refine wpAny_pure ⟨rfl,eX.upd (λb o nb e=>he' b o (λq=>nb (by rw [q];exact .tail _ (.head _))) e) (λa ha=>?_),λb hb=>?_⟩
  ·rcases aX ha with rfl | ha
   ·exact ⟨hG.1,nc he₁⟩
   ·erw [aE ha];exact ⟨hG.2,hSt hst₁⟩
  ·rcases aX hb with rfl | hb
   ·obtain ⟨oe,q1,q2⟩:=nc he₁
    exact ⟨oe,he' _ _ hne q1,q2.2.2⟩
   ·erw [aE hb];exact hit'
 | succ k ih=>
  intro i s xs hk hx he hst
  have hi:i<l.length:=by w_fin
  have hx':xs= .str [l[i]]::(l.drop (i+1)).map (λc=> .str [c]):=by
   rw [hx,List.drop_eq_getElem_cons hi];rfl
  subst hx'
  intro A s₁ hA gi hI _ _
  obtain ⟨old,he⟩:=he
  have he₁:IsEnum s₁.heap e it i old:=hI e (.head _) _ he
  have hst₁:s₁.heap.IsStrIter it (strIterType (bM l)) (bM l) t i:=by
   obtain ⟨o,ho,r⟩:=hst
   exact ⟨o,hI it (.tail _ (.head _)) o ho,r⟩
  haveI hef:e∉[it]:=λq=>hne (aE q)
  refine wpAny_pyNext_enum_itemD (hD A.in1 hA.hd) he₁ hst₁ hi hne hef λx h' tk hPx hout hst' hT hsz hkk=>⟨_,rfl,?_⟩
  obtain ⟨c,u,hc,rfl⟩:=hPx
  haveI hcl:c=l[i]:=by simp [hi] at hc;exact hc.symm
  subst hcl
  refine wpAny_letOwnedTupleGo_enum (s:={ s₁ with heap:=h',toks:=tk+1 }) hout λh'' he'' hsb=>⟨[e,it],[],λμ hxx hs=>?_,?_,λb hb=> .inl hb,λb hb=>?_,λb hb=>?_,(by intro j hj;w_cond hj),?_⟩
  ·haveI hnew:s₁.heap.get? s₁.heap.objs.size=none:=aK _
   have nTe:s₁.heap.objs.size≠e:=(dZ hnew he₁).symm
   obtain ⟨oi,hoi,_⟩:=hSt hst₁
   have nTi:s₁.heap.objs.size≠it:=(dZ hnew hoi).symm
   refine .tuple (vs:=[.int i tk,.str ⟨#[l[i]]⟩ u]) (ep:=0) (bx.mpr ⟨(hsb.2 _ nTe).trans hT,gi.fresh hnew,λq=>?_⟩) (by show 2<=1048576;w_fin) (.cons (.int _ _) (.cons (.str [_] _ (by unfold be;simp)) .nil))
   rcases aw q with q | q
   ·rcases aX q with q | q
    ·exact nTe q
    ·exact nTi (aE q)
   ·obtain ⟨o,e0⟩:=hxx _ q
    ctx_has hnew e0
  ·refine eX.upd (λb o nb e0=>(hsb.2 b λq=>nb (by rw [q];exact .head _)).trans (hkk b o (λq=>nb (by rw [q];exact .head _)) (λq=>nb (by rw [q];exact .tail _ (.head _))) e0)) λa ha=>?_
   rcases aX ha with rfl | ha
   ·exact ⟨hG.1,nc he₁⟩
   ·erw [aE ha];exact ⟨hG.2,hSt hst₁⟩
  all_goals first
   | (
     rcases aX hb with rfl | hb
     ·obtain ⟨oe,he1,he2⟩:=nc he''
      exact ⟨oe,he1,he2.2.2⟩
     ·erw [aE hb]
      obtain ⟨oi,hoi,hnc⟩:=hSt hst'
      exact ⟨oi,(hsb.2 _ hne.symm).trans hoi,hnc.2.2⟩)
   | skip
  have hst'':h''.IsStrIter it (strIterType (bM l)) (bM l) t (i+1):=by
   obtain ⟨o,ho,r⟩:=hst'
   exact ⟨o,(hsb.2 _ hne.symm).trans ho,r⟩
  exact ih (i+1) { s₁ with heap:=h'',toks:=tk+1 } _ (by w_fin) rfl ⟨_,by exact_mod_cast he''⟩ hst''
end
end
section
open PySem.W.X
def DN (W:Wd) (n:Nat) (fc:FC) (tgt:Expr) (e:Expr) (f:List SV->Option (List PV)):Prop:=
 ∀ (A:Around) (env:Env) (κ:List Addr) (B:aN) (ω:List Addr) (st:List SV) (s:Shared) (xs:List PV),cf n A->bD W fc env κ B ω st s->f st=some xs->
  wpAny W.M A (eval e env) (λx s₁=>wpAny W.M A (pyIter x) (λit s₂=>∃ I J,Gr W s s₂/\(∀ b∈I,s.heap.get? b=none)/\(∀ j∈J,s.gens[j]? =none)/\iB s₂ I/\jc W n tgt it xs I J s₂) (λU U=>False) s₁) (λU U=>False) s
def IQ (W:Wd) (n:Nat) (tgt:Expr) (it:Value) (xs:List PV) (Is:List Addr) (Js:List Nat) (s:Shared):Prop:=∃ I J,(∀ b∈I,b∈Is)/\(∀ j∈J,j∈Js)/\jc W n tgt it xs I J s
section
variable {n:Nat} {fc:FC} {env:Env} {κ:List Addr} {B:aN} {ω:List Addr} {st:List SV} {s s':Shared} {m cm:Str->Option Value}
theorem wJ {tgt it xs}:FS (IQ W n tgt it xs):=λIs Js s s' ⟨I,J,h1,h2,h3⟩ a b c=>
 ⟨I,J,h1,h2,h3.move (λq hq=>a q (h1 q hq)) (λj hj=>b j (h2 j hj)) c⟩
theorem wy {y:Str} {elts:List Expr} {kk:Nat} {p q pos:Pos} {e:Expr} {fe:List SV->Option SV} (hb:iD W fc y) (hv:bootBuiltins y=some (.type "enumerate")) (hn:y≠"__name__") (he:SE W n fc e fe)
  (hst:∀ env,starEach [e] env=(false,eval e env)::starEach [] env:=by w_left) (hplain:∀ env,(backTo pos (starEach [] env)).any (·.1)=false:=by w_left):
  DN W n fc (.Tuple elts kk p) (.Call (.Name y q) [e] [] pos) (λst=>(de fe st).bind λd=>(vr d).map λl=>en 0 (l.map λc=> .str [c])):=by
 intro A env κ B ω st s xs hA x h
 obtain ⟨d,h1,h2⟩:=ah h
 refine wpAny_Call_Name_kw (dD hb hv hn x ?_)
 refine PyProof.Rows.callWith_type1 (wpAny_items_cons (wpAny_mono (he A env κ B ω st s _ hA x (aT h1)) (λv s₁ z=>wpAny_items_nil ?_) λU U q=>q) (hst env)) (hst env) (hplain env)
 obtain ⟨dv,g⟩:=z
 haveI x₁:=x.gr g
 (try clear h);(try clear h1)
 obtain ⟨l,e1,rfl⟩:=(aA h2:_)
 obtain rfl:=dW e1
 cases dv using Data.strE with | mk t n1=>
 haveI hn0:s₁.heap.get? s₁.heap.objs.size=none:=aK _
 haveI hn1:s₁.heap.get? (s₁.heap.objs.size+1)=none:=Heap.get?_none_of_le (Nat.le_succ _)
 refine call_enumerate_str λh' he hi hs k=>wpAny_pyIter_enum he ?_
 refine ⟨[s₁.heap.objs.size+1,s₁.heap.objs.size],[],g.trans (Gr.of_sub k),λb hb=>?_,(by intro j hj;w_cond hj),λb hb=>?_,?_⟩
 ·refine g.dom b ?_
  rcases aX hb with q | q
  ·rw [q];exact hn1
  ·rw [aE q];exact hn0
 ·rcases aX hb with q | q
  ·rw [q];exact ⟨_,he,(c8 (T:="enumerate") rfl rfl (by decide) (by simp)).2.2⟩
  ·rw [aE q]
   obtain ⟨o,q1,q2,q3⟩:=hi
   exact ⟨o,q1,(c8 q2 q3 (by unfold strIterType;split <;> decide) (by simp)).2.2⟩
 ·exact jc.enumStr (t:=t) (Nat.succ_ne_self _) ⟨b6 x₁.gi hn1,b6 x₁.gi hn0⟩ l.length 0 _ _ (by w_fin) (by rw [List.drop_zero]) ⟨_,he⟩ hi
theorem jw {A tgt it body K l p bd fenv} (h:cf (n+1) A):cf n (A.over (.forLoop tgt it body [] env) [.ret K none false l (.func bd fenv) p []]):=by
 refine ⟨?_,?_,?_⟩
 ·show markOver none A.handled A.handled=none
  exact h.1
 ·show A.depth + frameCount [(.func bd fenv,p)] + (Code.forLoop tgt it body [] env).weight+8 * n<=980
  have e1:frameCount [(Code.func bd fenv,p)]=1:=rfl
  have e2:(Code.forLoop tgt it body [] env).weight=0:=rfl
  have:=h.2.1
  w_fin
 ·show A.units + unitsOf [(.func bd fenv,p)] + (Code.forLoop tgt it body [] env).cUnits+100 * n<=9500
  have e1:unitsOf [(Code.func bd fenv,p)]=3:=rfl
  have e2:(Code.forLoop tgt it body [] env).cUnits=0:=rfl
  have:=h.2.2
  w_fin
theorem nJ {A bd fenv} (h:cf (n+1) A):cf n (A.over (.func bd fenv) []):=by
 refine ⟨h.1,?_,?_⟩
 ·show A.depth + frameCount [] + (Code.func bd fenv).weight+8 * n<=980
  have e1:frameCount []=0:=rfl
  have e2:(Code.func bd fenv).weight=1:=rfl
  have:=h.2.1
  w_fin
 ·show A.units + unitsOf [] + (Code.func bd fenv).cUnits+100 * n<=9500
  have e1:unitsOf []=0:=rfl
  have e2:(Code.func bd fenv).cUnits=3:=rfl
  have:=h.2.2
  w_fin
set_option tactic.hygienic true in
theorem Ej {tgt iter body bd fenv pos ftg fb fi K H gd lv ys st' rest} (hg:rz fc=true) (hi:DN W n fc tgt iter fi) (ht:tm W fc tgt ftg) (hb:GB W n fc body fb) (hs:∀ env x,foldedSetIterable iter env x=pure x) (hco:env.scope.isCoroutine=false) (hgd:gd false=false) (h1:(fi st).bind (λxs=>ql ftg fb xs st)=some (ys,st')) (hk:CK W n fc env (λU U U=>True) (.func bd fenv) (K .next) [] st' rest):
  CK W n fc env (λU U U=>True) (.func bd fenv) ((exec (.For tgt iter body [] pos) env).wrap K H gd lv) [] st (ys++rest):=λA s₁ s Is₁ Is Js₁ Js a U=>by
 obtain ⟨xs,q1,q2⟩:=(ah h1:_)
 refine Fz (wpAny_mono (hi _ env [] _ _ st s xs (nJ a.ok) (a.ff.inv hg) q1) (λv s2 y=>wpAny_mono y (λit s3 z=>?_) λU U q=>q.elim) λU U q=>q.elim) (hs env)
 obtain ⟨I,J,g,hI,hJ,hEx,hit⟩:=z
 have LS:∃ o,s.heap.get? env.locals=some o/\∀ vs,o.data≠ .fields vs:=by
  obtain ⟨m,hn,_⟩:=a.ff.ex
  obtain ⟨o',e',hd⟩:=aI hn
  exact ⟨o',e',hd⟩
 have a3:=a.step (bR.of_gr g) (a.ff.move (g.gi a.ff.gi) λo e=>by
  obtain ⟨o',e',hd⟩:=LS
  rw [e] at e';w_cond e'
  exact g.kp _ _ (a.ff.gi.notin e hd) e)
 have fr1:∀ b,s.heap.get? b=none->b∈Is₁∨s₁.heap.get? b=none:=λb e=>by
  by_cases w:b∈env.locals::Is₁
  ·rcases aX w with rfl | w
   ·obtain ⟨o,e',_⟩:=LS;rw [e] at e';w_cond e'
   ·exact .inl w
  ·exact .inr (a.gr.dom b w e)
 haveI a4:At W n fc env A s₁ s3 Is₁ (I++Is) Js₁ (J++Js) st:={ a3 with
  is:=λb hb=>(aw hb).elim (λq=>fr1 b (hI b q)) (a3.is b)
  js:=λj hj=>(aw hj).elim (λq=>by
   by_cases w:j∈Js₁
   ·exact .inl w
   ·refine .inr ?_
    cases e:s₁.gens[j]? with
    | none=>rfl
    | some x=>have:=a.gr.gens j x w e;erw [hJ j q] at this;w_cond this) (a3.js j)
  e2:=λb hb=>(aw hb).elim (hEx b) (a3.e2 b)
  l2:=λq=>(aw q).elim (λq=>by obtain ⟨o,e',_⟩:=LS;rw [hI _ q] at e';w_cond e') a3.l2 }
 intro p
 haveI loop:∀ (xs:List PV) (st:List SV) (ys:List PV),ql ftg fb xs st=some (ys,st')->
   CK W n fc env (IQ W n tgt it xs) (.forLoop tgt it body [] env) (W.M.den (.forLoop tgt it body [] env)) [.ret (CU env K H gd lv) none false (lv []) (.func bd fenv) p []] st (ys++rest):=by
  intro xs
  induction xs with
  | nil=>
   intro st ys h A s₁ s Is₁ Is Js₁ Js a x
   w_cond h
   obtain ⟨I,J,hI,hJ,hit⟩:=x
   refine mF (wpAny_mono (hit _ s (jw a.ok) a.ff.gi (λU U U e=>e) (λU U U e=>e) (λU e=>e)) (λr s2 y=>?_) λU U q=>q.elim)
   obtain ⟨rfl,k,hE⟩:=y
   have a2:=a.stepI hI hJ k hE [] [] (λb hb=>by w_cond hb) (λb hb=>by w_cond hb) (λb hb=>by w_cond hb)
   show SegX W.M A (.block [] env) (leafOf (.ok .next)) _ s2 _
   refine FB ?_
   exact hk A s₁ s2 Is₁ _ Js₁ _ a2 trivial
  | cons d xs ih=>
   intro st ys h A s₁ s Is₁ Is Js₁ Js a x
   obtain ⟨st1,h2,h⟩:=ah h
   split at h <;> first | cases h | skip
   rename_i hfl
   obtain ⟨pr,h3,h⟩:=ah h
   obtain ⟨qr,h4,h⟩:=aA h
   w_cond h
   obtain ⟨I,J,hI,hJ,hit⟩:=x
   refine mF (wpAny_mono (hit _ s (jw a.ok) a.ff.gi (λU U U e=>e) (λU U U e=>e) (λU e=>e)) (λr s2 y=>?_) λU U q=>q.elim)
   obtain ⟨v,rfl,y⟩:=y
   refine wpAny_mono y (λU s3 z=>?_) λU U q=>q.elim
   obtain ⟨I',J',hd,k,hI',hE1,hE2,hJ',hit'⟩:=z
   have a3:=a.stepI hI hJ k hE1 I' J' hI' hJ' hE2
   haveI LS:∃ o,s.heap.get? env.locals=some o:=by
    obtain ⟨m,hn,_⟩:=a.ff.ex
    obtain ⟨o',e',hd⟩:=aI hn
    exact ⟨o',e'⟩
   haveI exs3:∀ b,(∃ o,s.heap.get? b=some o)->∃ o,s3.heap.get? b=some o:=λb ⟨o,e⟩=>by
    by_cases w:b∈I
    ·obtain ⟨o',e',_⟩:=hE1 b w
     exact ⟨o',e'⟩
    ·cases e':s3.heap.get? b with
     | none=>rw [k.dom b w e'] at e;w_cond e
     | some o=>exact ⟨o,rfl⟩
   haveI hLI':env.locals∉I':=λq=>a3.l2 (cY _ q)
   haveI iv:=a3.ff.inv' (μ:=I'++rK s env.locals) hg (λb hb=>(aw hb).elim (λq=>let ⟨o,e,_⟩:=hE2 b q;⟨o,e⟩) λq=>exs3 b (d6.mp q).1) (λq=>(aw q).elim hLI' λq=>(d6.mp q).2 rfl)
   haveI dv:=hd (rK s env.locals++[env.locals]) (λb hb=>by
    rcases aw hb with q | q
    ·exact (d6.mp q).1
    ·erw [aE q];exact LS) (λb hb=>by
    obtain ⟨o,e,_⟩:=a.e2 b (hI b hb)
    exact cY _ (d6.mpr ⟨⟨o,e⟩,λq=>a.l2 (q ▸ hI b hb)⟩))
   haveI dv':Data W (fz W s3.heap (aq ⟨I'++rK s env.locals,[]⟩ [] [env.locals])) v d:=Data.sub (aG λb hb=>by
    simp only [aq,List.mem_append,List.nil_append] at hb ⊢
    rcases hb with (q | q) | q
    ·exact .inl q
    ·exact .inr (.inl q)
    ·exact .inr (.inr q)) dv
   refine wpAny_mono (ht _ env [] _ _ st s3 v d st1 (jw a.ok).1 iv dv' h2) (λU s4 w H'=>?_) λU U q=>q.elim
   obtain ⟨iv4,g4⟩:=w
   haveI a4:=a3.step g4 (FF.of_inv hg a.ff.cl a.ff.gL a.ff.hL hfl iv4)
   haveI hx4:IQ W n tgt it xs (I'++Is) (J'++Js) s4:=wJ _ _ s3 s4 ⟨I',J',λb hb=>cY _ hb,λj hj=>cY _ hj,hit'⟩ (λb hb o e=>g4.kp b o (λq=>(aw q).elim (a3.t2 b hb) λq=>a3.l2 ((show b=env.locals by simpa using q) ▸ hb)) e) (λj U x e=>g4.gens j x e) g4.dom
   erw [kr]
   refine hb env _ _ (λf=>match f with
      | .next | .cont=> .pure (.again (.forLoop tgt it body [] env))
      | .brk=> .pure (.done .next)
      | .ret v=> .pure (.done (.ret v))) H' id id st1 pr.1 pr.2 _ (IQ W n tgt it xs) hco wJ ⟨λA h=>jw h,rfl,rfl⟩ rfl h3 (λA s₁ s Is₁ Is Js₁ Js a x=>?_) A s₁ s4 Is₁ _ Js₁ _ a4 hx4
   exact rj rfl (ih pr.2 qr.1 h4 A s₁ s Is₁ Is Js₁ Js a x)
 have:=loop xs st ys q2 A s₁ s3 Is₁ _ Js₁ _ a4 ⟨I,J,λb hb=>cY _ hb,λj hj=>cY _ hj,hit⟩
 erw [hgd]
 exact this
end
end
section
open PySem.W.X
section
variable {prog:Program} {w:World} {A:Around} {E:Value->Shared->Prop} {s:Shared}
theorem Do {M:Model} {c:Code} {t:Sem PySem.Fin} {fs:List Frame} {P P':End->Shared->Prop} (x:SegX M A c t fs s P) (h:∀ e s',e.quiet=true->P e s'->P' e s'):SegX M A c t fs s P':=λΓ p hc hΓ=>by
 obtain ⟨e,s',hr,hq,hp⟩:=x Γ p hc hΓ
 exact ⟨e,s',hr,hq,h e s' hq hp⟩
theorem Dn {M:Model} {gs:GenState} {P P':End->Shared->Prop} (x:rH M A gs s P) (h:∀ e s',e.quiet=true->P e s'->P' e s'):rH M A gs s P':=by
 cases gs with
 | fresh c=>exact Do x h
 | suspended _ _ _ _ _ _=>exact Do x h
 | running=>exact x
 | finished=>exact x
theorem B7 {g gs l} {α:Type} {k} {Q:α->Shared->Prop} (hg:s.gens[g]? =some gs) (x:rH (model prog w) A gs (s.setGen g .running) (λe s₁=>wpAny (model prog w) A (k e.result) Q E (s₁.setGen g e.genState))):wpAny (model prog w) A (.resume g (.send .none) l k) Q E s:=by
 cases gs with
 | fresh c=>exact wake_any α prog w hg (.inl ⟨rfl,rfl,rfl,rfl⟩) (λΓ=>Γ.In A) (λU h=>h) (SegX.mono x λe s' h Γ p hC=>h Γ p hC)
 | suspended k₀ l₀ c₀ p₀ fs₀ cl=>exact wake_any α prog w hg (.inr ⟨k₀,l₀,p₀,cl,rfl,rfl⟩) (λΓ=>Γ.In A) (λU h=>h) (SegX.mono x λe s' h Γ p hC=>h Γ p hC)
 | running=>exact x.elim
 | finished=>exact x.elim
theorem kB {a:Addr} {g:Nat} {gs:GenState} {Q:Option Value->Shared->Prop} (hh:A.handled=none) (hl:s.heap.NoLimit) (hroom:A.depth<recursionLimit) (hg:s.heap.IsGen a g) (hgs:s.gens[g]? =some gs)
  (x:rH (model prog w) A.in1 gs (s.setGen g .running) (λe s₁=>match e with
   | .ret r=>r= .ok (.ret .none)/\∀ h',bF s₁.heap h'->Q none { s₁.setGen g .finished with heap:=h' }
   | .susp v g' l k c p fs=>Q (some v) (s₁.setGen g (End.susp v g' l k c p fs).genState))):wpAny (model prog w) A (pyNext (.ref a)) Q E s:=by
 refine wpAny_bind (wpAny_attempt (wpAny_callSpecial?_slot (name:=Str.ofString "__next__") hg.typeIs slot_gen_next
  (wpAny_call_entry slot_gen_next hg.typeIs entry_gen_next ?_ (args_gen_next _))))
 show wpAny _ A.in1 (Builtin.Generator.genWake (.ref a) (.send .none)) _ _ s
 refine wpAny_bind (wpAny_holding (wpAny_genNumber hg (wpAny_bind (wpAny_genState hgs ?_))))
 cases gs with
 | running=>exact x.elim
 | finished=>exact x.elim
 | _=>
  refine wpAny_bind (wpAny_roomToWake hl hroom ?_)
  refine B7 hgs (SegX.mono x λe s₁ h=>?_)
  cases e with
  | ret r=>
   (try clear hroom);obtain ⟨rfl,h⟩:=h
   show wpAny _ A.in1 (newExc (.type "StopIteration") [] >>= _) _ _ _
   refine wpAny_bind ?_
   refine wpAny_bind (wpAny_newObj_type ?_ (by size_fits))
   refine wpAny_bind (m:=firstArgMember _ _) (wpAny_of_eq (a:=Value.none) (by first | rfl | (simp only [firstArgMember];rfl)) ?_)
   refine wpAny_newObj_type ?_ (by size_fits)
   refine wpAny_bind (wpAny_bind (wpAny_handled ?_))
   first | erw [show A.in1.handled=none from hh] | rw [hh]
   refine wpAny_throw ?_
   refine wpAny_bind (wpAny_isInstance (T:="StopIteration") (b:=true) ⟨_,Heap.get?_push_size _ rfl,rfl⟩ isSubtype_stop ?_)
   exact wpAny_pure (h _ λb o hb=>Heap.get?_push_of_some _ (Heap.get?_push_of_some _ hb))
  | susp v g' l k c p fs=>exact wpAny_pure ⟨v,rfl,wpAny_pure h⟩
theorem vJ {tgt a g v Q} (hg:s.heap.IsGen a g) (h:Q () s):wpAny (model prog w) A (letOwnedTupleGo tgt (.ref a) v) Q E s:=by
 obtain ⟨o,nm,qn,ho,hc,hd,hsl⟩:=hg
 cases tgt <;> first
  | exact wpAny_pure h
  | (cases v <;> first
    | exact wpAny_pure h
    | (
      refine wpAny_bind (wpAny_load ho ?_)
      erw [hc,hd]
      exact wpAny_pure h))
end
section
variable {n:Nat} {fc:FC} {env:Env} {κ:List Addr} {B:aN} {ω:List Addr} {st:List SV} {s s':Shared} {m cm:Str->Option Value}
theorem bX {s:Shared} {g j x} (h:j≠g):(s.setGen g x).gens[j]? =s.gens[j]? :=by
 simp [Shared.setGen,Ne.symm h]
theorem GI.setGen (x:GI W s) (g) (gs) (h:gs.bare=true):GI W (s.setGen g gs):=by
 refine ⟨x.ok,x.top,x.tab,λy hy=>?_⟩
 rcases Array.mem_or_eq_of_mem_setIfInBounds hy with h1 | h1
 ·exact x.bare y h1
 ·erw [h1];exact h
theorem GP.gens {L ys Is Js gs} (x:GP W n L ys Is Js s gs) (h:s'.heap=s.heap) (hJ:∀ j∈Js,s'.gens[j]? =s.gens[j]?):GP W n L ys Is Js s' gs:=by
 rw [ln] at x ⊢
 intro A s₁ h1 h2 h3 h4 h5
 rw [h] at h3 h4
 exact x A s₁ h1 h2 h3 h4 λj hj y e=>h5 j hj y ((hJ j hj).trans e)
theorem cV.gen {k} (hk:k+2<=n) {tgt Φ a L g} (hΦ:Φ.IsGen a g) (hΦL:Φ.get? L=none):∀ (ys:List PV) (Is:List Addr) (Js:List Nat) (s:Shared) (gs:GenState),s.gens[g]? =some gs->gs.bare=true->GP W k L ys Is Js s gs->g∉Js->L∉Is->(∀ b∈Is,Φ.get? b=none)->iB s (L::Is)->
  cV W n tgt Φ (.ref a) ys (L::Is) (g::Js) s:=by
 intro ys
 induction ys with
 | nil=>
  intro Is Js s gs hgs hb x hgJ hL hΦI hE A s₁ hA gi sub hI hJ hdom
  have hg1:s₁.heap.IsGen a g:=hΦ.keeps sub
  have hgs1:s₁.gens[g]? =some gs:=hJ g (.head _) gs hgs
  have hA':cf (k+1) A.in1:=cf.in1 (hA.le (show k+1+1<=n by w_fin))
  have gi1:GI W (s₁.setGen g .running):=gi.setGen g _ rfl
  haveI y:=ln.mp x A.in1 (s₁.setGen g .running) hA' gi1 hI hdom (λj hj z e=>by
   rw [bX (λq=>hgJ (by erw [<-q];exact hj))];exact hJ j (.tail _ hj) z e)
  haveI gone:∀ (e:End) (s':Shared),Es W k L [] Is Js (s₁.setGen g .running) e s'->e= .ret (.ok (.ret .none))/\eX W (L::Is) Js (s₁.setGen g .running) s':=λe s' h=>h
  refine kB hA.hd (gi.ok.nolimit.keeps gi.top) (hA.room) hg1 hgs1 ?_
  refine Dn y λe s' hq h=>?_
  obtain ⟨rfl,k1⟩:=gone e s' h
  refine ⟨rfl,λh' hs=>⟨rfl,⟨λb o nb e=>hs b o (k1.kp b o nb e),λU=>?_,λi z ni e=>?_,k1.os,λb nb e=>k1.dom b nb ?_⟩⟩⟩
  ·have g2:GI W (s'.setGen g .finished):=(k1.gi gi1).setGen g _ rfl
   exact GI.sub (s:=s'.setGen g .finished) (tk:=(s'.setGen g .finished).toks) g2 hs
  ·show (s'.setGen g .finished).gens[i]? =some z
   rw [bX (λq=>ni (by rw [q];exact .head _))]
   refine k1.gens i z (λq=>ni (.tail _ q)) ?_
   rw [bX (λq=>ni (by rw [q];exact .head _))];exact e
  ·exact bF.dom hs b e
 | cons y ys ih=>
  intro Is Js s gs hgs hb x hgJ hL hΦI hE A s₁ hA gi sub hI hJ hdom
  have hg1:s₁.heap.IsGen a g:=hΦ.keeps sub
  have hgs1:s₁.gens[g]? =some gs:=hJ g (.head _) gs hgs
  have hA':cf (k+1) A.in1:=cf.in1 (hA.le (show k+1+1<=n by w_fin))
  have gi1:GI W (s₁.setGen g .running):=gi.setGen g _ rfl
  haveI yy:=ln.mp x A.in1 (s₁.setGen g .running) hA' gi1 hI hdom (λj hj z e=>by
   rw [bX (λq=>hgJ (by erw [<-q];exact hj))];exact hJ j (.tail _ hj) z e)
  refine kB hA.hd (gi.ok.nolimit.keeps gi.top) (hA.room) hg1 hgs1 ?_
  refine Dn yy λe s' hq h=>?_
  obtain ⟨v,l,kk,c,p,fs,Is',Js',rfl,k1,hIs,hJs,e1,e2,hd,hgp⟩:=h
  haveI gi':=k1.gi gi1
  have hfg:fs.any Frame.guarded=false:=by simpa [End.quiet] using hq
  have hbare:GenState.bare (.suspended kk l c p fs (false || fs.any Frame.guarded))=true:=by simp [GenState.bare,hfg]
  have hgs':s'.gens[g]? =some .running:=k1.gens g _ hgJ (setGen_self hgs1)
  have k2:eX W (L::Is) (g::Js) s₁ (s'.setGen g (.suspended kk l c p fs (false || fs.any Frame.guarded))):=⟨k1.kp,λU=>gi'.setGen g _ hbare,λi z ni e=>by
   rw [bX (λq=>ni (by rw [q];exact .head _))]
   refine k1.gens i z (λq=>ni (.tail _ q)) ?_
   rw [bX (λq=>ni (by rw [q];exact .head _))];exact e,k1.os,k1.dom⟩
  have frJ:∀ j,j≠g->(s₁.setGen g .running).gens[j]? =none->s₁.gens[j]? =none:=λj hj e=>by rw [bX hj] at e;exact e
  have hgJ':g∉Js':=λq=>(hJs g q).elim hgJ λe=>by rw [setGen_self hgs1] at e;w_cond e
  have L1:∃ o,s₁.heap.get? L=some o:=by obtain ⟨o,e,_⟩:=hE L (.head _);exact ⟨o,hI L (.head _) o e⟩
  refine ⟨v,rfl,vJ (g:=g) (s:=s'.setGen g _) ?_ ⟨L::Is',g::Js',λμ hμ hx hs=>?_,k2,λb hb=>?_,e1,e2,λj hj=>?_,?_⟩⟩
  ·obtain ⟨o,nm,qn,ho,r⟩:=hΦ
   refine ⟨o,nm,qn,k1.kp a o (λq=>?_) (sub _ _ ho),r⟩
   rcases aw q with q | q
   ·obtain ⟨ps,e'⟩:=gi.tab.fields q
    rw [sub _ _ ho] at e';w_cond e';cases r.1
   ·rcases aX q with q | q
    ·rw [q,hΦL] at ho;w_cond ho
    ·rw [hΦI a q] at ho;w_cond ho
  ·refine hd _ λb hb=>?_
   rcases aw hb with q | q
   ·rcases aX q with q | q
    ·exact .inl q
    ·exact .inr (.inl q)
   ·exact .inr (.inr (hx b q))
  ·rcases aX hb with q | q
   ·exact .inl (by rw [q];exact .head _)
   ·exact (hIs b q).elim (λq=> .inl (.tail _ q)) .inr
  ·rcases aX hj with q | q
   ·exact .inl (by erw [q];exact .head _)
   ·rcases hJs j q with w | w
    ·exact .inl (.tail _ w)
    ·exact .inr (frJ j (λq'=>hgJ' (by erw [<-q'];exact q)) w)
  ·haveI hgs2:(s'.setGen g (.suspended kk l c p fs (false || fs.any Frame.guarded))).gens[g]? =some (.suspended kk l c p fs (false || fs.any Frame.guarded)):=setGen_self hgs'
   refine ih Is' Js' _ _ hgs2 hbare ?_ hgJ' (λq=>(hIs L q).elim hL λe=>by obtain ⟨o,e'⟩:=L1;erw [show (s₁.setGen g .running).heap=s₁.heap from rfl,e'] at e;w_cond e) (λb hb=>?_) e2
   ·erw [Bool.false_or]
    exact GP.gens hgp rfl λj hj=>bX (λq=>hgJ' (by erw [<-q];exact hj))
   ·rcases hIs b hb with q | q
    ·exact hΦI b q
    ·cases e:Φ.get? b with
     | none=>rfl
     | some o=>have:=sub _ _ e;rw [show s₁.heap.get? b=none from q] at this;w_cond this
end
end
section
open PySem.W.X
def Jj (W:Wd) (n:Nat) (fc:FC) (sm:Stmt) (f:List SV->Option (List PV×List SV)):Prop:=
 ∀ (env:Env) (bd:List Stmt) (fenv:Env) (K:Flow->Sem PySem.Fin) (H:Value->Sem PySem.Fin) (gd:Bool->Bool) (lv:List Value->List Value) (st:List SV) (ys:List PV) (st':List SV) (rest:List PV),env.scope.isCoroutine=false->gd false=false->f st=some (ys,st')->CK W n fc env (λU U U=>True) (.func bd fenv) (K .next) [] st' rest->CK W n fc env (λU U U=>True) (.func bd fenv) ((exec sm env).wrap K H gd lv) [] st (ys++rest)
def Gb (W:Wd) (n:Nat) (fc:FC) (b:List Stmt) (f:List SV->Option (List PV×List SV)):Prop:=
 ∀ (env:Env) (bd:List Stmt) (fenv:Env) (K:Flow->Sem PySem.Fin) (H:Value->Sem PySem.Fin) (gd:Bool->Bool) (lv:List Value->List Value) (st:List SV) (ys:List PV) (st':List SV) (rest:List PV),env.scope.isCoroutine=false->gd false=false->f st=some (ys,st')->CK W n fc env (λU U U=>True) (.func bd fenv) (K .next) [] st' rest->CK W n fc env (λU U U=>True) (.func bd fenv) ((execs b env).wrap K H gd lv) [] st (ys++rest)
structure Gd (W:Wd) (a:Addr) (fd:FuncData) (body:List Stmt):Prop where
 obj:∃ o,W.G.get? a=some o/\o.data= .func fd
 code:W.G.CodeRec fd.code fd.qualname
 body:fd.body= .stmts body
 co:fd.scope.isCoroutine=false
 gen:fd.scope.isGenerator=true
 kind:fd.scope.kind= .function
 glob:fd.globals=mainGlobals
 blt:fd.builtins=builtinsNs
 clo:fd.closure=[]
noncomputable def Ew (fc:FC) (ix:List Nat) (fg:List SV->Option (List PV×List SV)) (ds:List PV):Option (List PV):=
 (aY fc ix (ds.map .d) (bc fc)).bind λst=>if er st then (fg st).map (·.1) else none
def Jk (W:Wd) (k m:Nat) (t:List Value->Sem Value) (f:List PV->Option (List PV)):Prop:=
 ∀ (A:Around) (s:Shared) (μ:List Addr) (vs:List Value) (ds:List PV) (ys:List PV),cf m A->GI W s->Ex s μ->ae W (fz W s.heap μ) vs ds->f ds=some ys->
  wpAny W.M A (t vs) (λx s₁=>∃ ga g L gs,x= .ref ga/\Gr W s s₁/\s₁.heap.IsGen ga g/\s.heap.get? ga=none/\s.heap.get? L=none/\ga≠L/\s₁.gens[g]? =some gs/\gs.bare=true/\s.gens[g]? =none/\iB s₁ [L]/\GP W k L ys [] [] s₁ gs) (λU U=>False) s
section
variable {n:Nat} {fc:FC} {env:Env} {κ:List Addr} {B:aN} {ω:List Addr} {st:List SV} {s s':Shared} {m cm:Str->Option Value}
theorem rC {sm f} (h:GX W n fc sm f):Jj W n fc sm f:=λenv bd fenv K H gd lv st ys st' rest hco hgd h1 hk=>
 h env _ [] K H gd lv st ys st' rest _ hco (λU U U U U U U U=>trivial) ⟨λA h=>nJ h,rfl,rfl⟩ hgd h1 hk
theorem AE {tgt iter body pos ftg fb fi} (hg:rz fc=true) (hi:DN W n fc tgt iter fi) (ht:tm W fc tgt ftg) (hb:GB W n fc body fb) (hs:∀ env x,foldedSetIterable iter env x=pure x:=by w_left):Jj W n fc (.For tgt iter body [] pos) (λst=>(fi st).bind λxs=>ql ftg fb xs st):=λenv bd fenv K H gd lv st ys st' rest hco hgd h1 hk=>
 Ej hg hi ht hb hs hco hgd h1 hk
theorem AD:Gb W n fc [] (λst=>some ([],st)):=λenv bd fenv K H gd lv st ys st' rest hco hgd h hk=>by w_cond h;exact xg hk
theorem ja {sm b f g} (hf:Jj W n fc sm f) (hg:Gb W n fc b g):Gb W n fc (sm::b) (Ez f g):=λenv bd fenv K H gd lv st ys st' rest hco hgd h hk=>by
 obtain ⟨p,h1,h⟩:=ah h
 obtain ⟨q,h2,h⟩:=aA h
 w_cond h
 erw [kr]
 exact tR (hf env bd fenv _ H gd lv st p.1 p.2 _ hco hgd h1 (hg env bd fenv K H gd lv p.2 q.1 q.2 rest hco hgd h2 hk))
noncomputable abbrev sg (fd:FuncData) (a:Addr) (s:Shared):Env:=newEnv fd.scope s.heap.objs.size fd.globals (cellsFrom (s.heap.objs.size+1) fd.scope.names []++[]) (fd.qualname++".<locals>.") (some a) fd.code none fd.builtins
set_option tactic.hygienic true in
theorem xf {k a fd body names ix fg} (F:Gd W a fd body) (hfc:fd.scope.names=fc.names) (hck:iT fc=true) (hgf:rz fc=true) (hl0:fc.lam=none) (hix:b5 fc names ix=true) (hb:Gb W k fc body fg) (hbind:∀ vs:List Value,vs.length=names.length->bindArgs fd ⟨vs,[]⟩=pure (names.zip vs)):Jk W k 2 (λvs=>call (.ref a) vs) (Ew fc ix fg):=by
 intro A s μ vs ds ys hA g ex hv h
 obtain ⟨o,ho,hd⟩:=F.obj
 obtain ⟨st,h1,h2⟩:=ah h
 split at h2 <;> first | cases h2 | skip
 rename_i hfl
 obtain ⟨⟨ys',st'⟩,h3,rfl⟩:=(aA h2:_)
 have hlen:vs.length=names.length:=by erw [hv.length,fZ _ _ hix,<-gm _ _ _ _ h1,fJ]
 haveI hck':=hck
 simp only [iT,Bool.and_eq_true,decide_eq_true_eq,List.all_eq_true] at hck'
 obtain ⟨⟨nd,hnf⟩,hwn⟩:=hck'
 haveI hgf':=hgf
 simp only [rz,Bool.and_eq_true,List.all_eq_true,bne_iff_ne,ne_eq] at hgf'
 refine wpAny_call (codeAny_call_generator hA.room (g.top _ _ ho) hd F.co F.gen F.body (F.code.keeps g.top) ?_)
 rw [hbind vs hlen,F.clo]
 refine wpAny_pure ?_
 haveI hL:s.heap.get? s.heap.objs.size=none:=aK _
 obtain ⟨κ',x,hκ'⟩:=k8 (fc:=fc) (env:=newEnv fd.scope s.heap.objs.size fd.globals (cellsFrom (s.heap.objs.size+1) fd.scope.names []++[]) (fd.qualname++".<locals>.") (some a) fd.code none fd.builtins) (μ:=μ) (ν:=[]) (s:=s) "frame" fd.scope.names [] (λU=>none) s.toks (bc fc) g ex (λb hb=>by w_cond hb) (λb hb=>by w_cond hb)
  ⟨F.kind,hfc,F.glob,F.blt,λt ht=>by ctx_has hl0 ht⟩ rfl rfl (λx c h=>by w_cond h) (λx y c h=>by w_cond h)
  (λx hx=>by
   have:=hwn x hx
   rw [List.any_eq_true] at this
   obtain ⟨p,hp,q⟩:=this
   simp only [Bool.and_eq_true,beq_iff_eq] at q
   erw [hfc,<-q.1,<-q.2];exact hp)
  (λx kk hx hkk=>by
   rcases hkk with rfl | rfl
   ·erw [hfc];exact .inl hx
   ·have:=hnf _ hx;simp at this)
  nd (by erw [hfc];exact nd) (by simp [bc]) (λi sv h=>by
   unfold bc at h
   rw [gY] at h
   obtain ⟨_,_,e⟩:=(aA h:_)
   exact .inl e.symm)
 haveI sub:=d8 s "frame" fd.scope.names
 haveI hf:∀ b∈κ'++[s.heap.objs.size],s.heap.get? b=none:=λb hb=>by
  rcases aw hb with q | q
  ·exact hκ' b q
  ·erw [aE q];exact hL
 haveI hcells:cellsFrom (s.heap.objs.size+1) fd.scope.names []++[]=[]:=by
  rw [List.append_nil]
  refine List.eq_nil_iff_forall_not_mem.mpr λp hp=>?_
  have:=fB _ _ p hp
  erw [hfc] at this
  exact (hgf'.1.2 _ this).2 rfl
 refine ma (wpAny_mono (gC (A:=A.in1) g names ix vs (ds.map .d) _ st _ hix hlen x (aS.of_data hv) (Kp.of_sub sub) hf h1 _) (λU s₁ w=>?_) λU U q=>q.elim)
 obtain ⟨x₁,g₁⟩:=w
 haveI hG:W.G.get? s.heap.objs.size=none:=b6 g hL
 have ff:=FF.of_inv hgf (by exact hcells) hG (by exact g.size) hfl x₁
 refine ⟨x₁.gi.ok.nolimit.keeps x₁.gi.top,?_⟩
 generalize hobj:({ cls:= .type "generator",data:= .fields #[.int s₁.gens.size 0,.str fd.name s₁.toks,.str fd.qualname (s₁.toks+1)] }:Obj)=gobj
 have g1:Gr W s s₁:=by
  have g02:bR W κ' [s.heap.objs.size] s s₁:=(bR.of_gr (Gr.of_sub sub)).trans (λb hb=> .inl hb) g₁
  exact ⟨λb o n e=>g02.kp b o (λq=>(aw q).elim n λq=>by rw [hf b q] at e;w_cond e) e,λU=>x₁.gi,g02.gens,g02.os,g02.dom⟩
 have hsub2:bF s₁.heap (s₁.heap.push gobj):=λb o e=>Heap.get?_push_of_some _ e
 have gi2:GI W { s₁ with gens:=s₁.gens.push (.fresh (.func body (sg fd a s))),toks:=s₁.toks+1+1,heap:=s₁.heap.push gobj }:=by
  have:=x₁.gi.sub (tk:=s₁.toks+1+1) hsub2
  exact ⟨this.ok,this.top,this.tab,AllBare.push this.bare rfl⟩
 have g2:Gr W s₁ { s₁ with gens:=s₁.gens.push (.fresh (.func body (sg fd a s))),toks:=s₁.toks+1+1,heap:=s₁.heap.push gobj }:=⟨Kp.of_sub hsub2,λU=>gi2,λi y e=>by
  rw [Array.getElem?_push,if_neg (Nat.ne_of_lt (Array.getElem?_eq_some_iff.mp e).1)];exact e,rfl,hsub2.dom⟩
 have eL:∃ o,s₁.heap.get? s.heap.objs.size=some o/\dq o:=by
  obtain ⟨mm,hn,_⟩:=ff.ex
  obtain ⟨o',e',hd'⟩:=aI hn
  exact ⟨o',e',.of hd'⟩
 have hgn:s.gens[s₁.gens.size]? =none:=by
  cases e:s.gens[s₁.gens.size]? with
  | none=>rfl
  | some y=>have:=g1.gens _ y e;rw [Array.getElem?_eq_none (Nat.le_refl _)] at this;w_cond this
 refine ⟨s₁.heap.objs.size,s₁.gens.size,s.heap.objs.size,.fresh (.func body (sg fd a s)),rfl,g1.trans g2,?_,?_,hL,?_,Array.getElem?_push_size ..,rfl,hgn,?_,?_⟩
 ·exact ⟨gobj,_,_,Heap.get?_push_size _ (by rw [<-hobj];rfl),by rw [<-hobj],by rw [<-hobj],by rw [<-hobj]⟩
 ·exact g1.dom _ (aK _)
 ·obtain ⟨o,e,_⟩:=eL
  exact λq=>by rw [<-q,aK] at e;w_cond e
 ·intro b hb
  obtain ⟨o,e,hn⟩:=eL
  rw [aE hb]
  exact ⟨o,hsub2 _ _ e,hn⟩
 ·rw [ln]
  intro A2 s2 ok2 gi3 hI hdom hJ
  refine Cq ?_
  have ff2:FF W fc (sg fd a s) st s2:=ff.move gi3 λo e=>hI _ (.head _) o (hsub2 _ _ e)
  obtain ⟨oL,eL1,eL2⟩:=eL
  have hk:=hb (sg fd a s) body (sg fd a s) (λf=> .pure (.done (.ret (match f with | .ret v=>v | _=> .none)))) (λe=>(leaving (sg fd a s) e).wrap (λU=> .raise e) .raise id id) id id st ys' st' [] F.co rfl h3 (λA s₁ s Is₁ Is Js₁ Js aa U=>by
   show SegX W.M A _ (leafOf (.ok (.ret .none))) [] s _
   exact Fy ⟨rfl,aa.gr⟩)
  rw [List.append_nil] at hk
  exact hk A2 s2 s2 [] [] [] [] ⟨ok2,ff2,eX.of_gr (Gr.refl _ _),λb hb=>(by w_cond hb),λb hb=>(by w_cond hb),λb hb=>(by w_cond hb),λb hb=>(by w_cond hb),(λq=>by w_cond q),(λq=>by w_cond q),⟨oL,hI _ (.head _) oL (hsub2 _ _ eL1)⟩,gi3,λb hb=>(by w_cond hb)⟩ trivial
theorem wz {y a fd o tgt p pos e es fop fa} (k) (hg:cG W fc y a) (ho:W.G.get? a=some o) (hd:o.data= .func fd) (hop:Jk W k 2 (λvs=>call (.ref a) vs) fop) (ha:gb W n fc (e::es) fa) (hk:k+2<=n) (he:∀ env,starEach (e::es) env=(false,eval e env)::starEach es env:=by w_left):
  wh W n fc tgt (.Call (.Name y p) (e::es) [] pos) (λst=>(fa st).bind fop):=by
 intro A env κ B ω st s xs hA x h
 obtain ⟨ds,h1,h2⟩:=(ah h:_)
 refine wpAny_Call_Name_kw (fh hg.1 hg.2.2 hg.2.1 x ?_)
 refine callWith_def (o:=o) hd (wpAny_mono (ha A env κ B ω st s ds pos hA x h1) (λvs s₁ z=>?_) λU U q=>q) (he env)
 have x₁:=x.gr z.2
 refine ⟨x₁.gi.top _ _ ho,wpAny_mono (hop A s₁ _ vs ds xs (hA.le (by w_fin)) x₁.gi x₁.ex z.1 h2) (λv s₂ w=>?_) λU U q=>q⟩
 obtain ⟨ga,g,L,gs,rfl,g12,hgen,f1,f2,hne,hgs,hbare,f3,hE,hgp⟩:=w
 haveI gT:ga∉W.T:=x₁.gi.fresh f1
 haveI gh:ga∉aq B κ ω:=λq=>by obtain ⟨o,e⟩:=x₁.ex ga q;ctx_has f1 e
 have hΦ:(fz W s₂.heap (L::aq B κ ω)).IsGen ga g:=by
  obtain ⟨o,nm,qn,e,r⟩:=hgen
  exact ⟨o,nm,qn,bx.mpr ⟨e,gT,λq=>(aX q).elim hne gh⟩,r⟩
 refine wpAny_pyIter_gen hgen ⟨[L],[g],fz W s₂.heap (L::aq B κ ω),z.2.trans g12,bF.refl _,λb hb=>?_,hE,λj hj=>?_,?_,?_⟩
 ·erw [aE hb];exact z.2.dom _ f2
 ·erw [aE hj];exact gV z.2.gens f3
 ·exact cV.gen hk hΦ (by cases e:(fz W s₂.heap (L::aq B κ ω)).get? L with
   | none=>rfl
   | some o=>exact absurd (List.mem_cons_self) (bx.mp e).2.2) xs [] [] s₂ gs hgs hbare hgp (by simp) (by simp) (λb hb=>by w_cond hb) hE
 ·exact λA s' Q E hA hs U hq=>wpAny_pyIter_gen (hΦ.keeps hs) hq
end
end
section
open PySem.W.X
section
variable {n:Nat} {fc:FC} {env:Env} {κ:List Addr} {B:aN} {ω:List Addr} {st:List SV} {s s':Shared} {m cm:Str->Option Value}
end
end
noncomputable def kA (fc:FC) (i j:Nat):List SV->PV->Option (List SV):=EA (qi (λst d=>some (cF fc st i (.d d))) (qi (λst d=>some (cF fc st j (.d d))) Bx))
section
variable {n:Nat} {fc:FC} {env:Env} {κ:List Addr} {B:aN} {ω:List Addr} {st:List SV} {s s':Shared} {m cm:Str->Option Value}
theorem SE.mono {e} {f g:List SV->Option SV} (hf:SE W n fc e f) (h:∀ st sv,g st=some sv->f st=some sv):SE W n fc e g:=
 λA env κ B ω st s sv hA x hg=>hf A env κ B ω st s sv hA x (h st sv hg)
theorem gJ.mono {k t} {f g:List PV->Option PV} (hf:gJ W k t f) (h:∀ ds r,g ds=some r->f ds=some r):gJ W k t g:=
 λA s μ vs ds r hA gi ex hv hg=>hf A s μ vs ds r hA gi ex hv (h ds r hg)
theorem rJ {b}:SX W n fc b (λU=>none):=λA env κ B ω st s sv hA x hg=>by w_cond hg
theorem fD {st ds st'} (h:Bx st ds=some st'):ds.length=0:=by
 cases ds with
 | nil=>rfl
 | cons _ _=>w_cond h
theorem bT {f} {g:List SV->List PV->Option (List SV)} {l} (hg:∀ st ds st',g st ds=some st'->ds.length=l):∀ st ds st',qi f g st ds=some st'->ds.length=l+1:=by
 intro st ds st' h
 cases ds with
 | nil=>w_cond h
 | cons d ds=>
  obtain ⟨st1,_,h2⟩:=(ah h:_)
  erw [List.length_cons,hg _ _ _ h2]
theorem cz {y z p q pos k} (i j) (hy:eV fc y i=true) (hz:eV fc z j=true):tm W fc (.Tuple [.Name y p,.Name z q] k pos) (kA fc i j):=
 n8 2 (c9 (ay i hy) (c9 (ay j hz) rD)) (bT (bT λst ds st' h=>fD h))
theorem lu {v} {pos:Pos} {ts k tp fv g} (hv:SE W n fc v fv) (ht:tm W fc (.Tuple ts k tp) g) (hsole:∀ env,swapsWithSole [.Tuple ts k tp] v pos.line env=pure false:=by w_left) (hsw:∀ env,cx fc env->swappedStores [.Tuple ts k tp] v env=pure none:=by w_left):SX W n fc (.Assign [.Tuple ts k tp] v pos) (λst=>(de fv st).bind λd=>(g st d).map (·,.next)):=wM (t:=v) (pos:=pos) hv ht hsole hsw
end
def kR (W:Wd) (a:Addr) (t:Option Stmt) (q:Str) (dv kv:Value):Prop:=∃ m tok,W.G.get? a=some { cls:= .type "function",data:= .func (Hh t q dv kv m tok (a - 1)) }/\W.G.CodeRec (.ref (a - 1)) q
structure Wf (W:Wd):Prop where
 b:∀ y∈gc,W.mg y=none
 g:∀ p∈gv,W.mg p.1=some (.ref p.2)
 f1:kR W 23 (bN 1) "insort_right" (.ref 15) (.ref 16)
 f2:kR W 32 (bN 2) "bisect_right" (.ref 24) (.ref 25)
 f3:kR W 41 (bN 3) "insort_left" (.ref 33) (.ref 34)
 f4:kR W 50 (bN 4) "bisect_left" (.ref 42) (.ref 43)
 f6:kR W 57 (bN 6) "_iter_escaped_chars" .none .none
 f7:kR W 64 (bN 7) "_strip_quoted_realnames" .none .none
 f8:kR W 71 (bN 8) "_check_parenthesis" .none .none
 f11:kR W 106 (bN 11) "add_func_stats" .none .none
 f12:kR W 113 (bN 12) "add_callers" .none .none
 f13:kR W 120 (bN 13) "count_calls" .none .none
 f15:kR W 125 (bN 15) "_law_stretch" .none .none
 f16:kR W 132 (bN 16) "_law_hop" .none .none
 f17:kR W 137 (bN 17) "_law_rows" .none .none
 f18:kR W 144 (bN 18) "_law_text" .none .none
 f19:kR W 149 (bN 19) "_law_read" .none .none
 f20:kR W 154 (bN 20) "law" .none .none
 i1:kR W 85 (gH 0 (bN 10)) "TupleComp.__init__" .none .none
 i2:kR W 92 (gH 1 (bN 10)) "TupleComp.compare" .none .none
 d:∀ t∈[15,24,33,42],∃ tok,W.G.get? t=some { cls:= .type "tuple",data:= .seq #[.int 0 tok,.none] }
 kd:∀ D∈[16,25,34,43],∃ m,W.G.Ns D m/\m "key"=some .none
 lam:∀ t∈[((124:Addr),(122:Addr),(("_law_stretch.<locals>.<lambda>":Str))),(153,151,"law.<locals>.<lambda>")],t∈W.tabs
 K:∃ mN,td W ⟨95,"comp_select_list"⟩ 94 mN/\mN "__init__"=some (.ref 85)/\mN "compare"=some (.ref 92)
theorem Wf.bi (H:Wf W) {fc y} (h1:(fc.names.lookup y==some NameKind.globalImplicit)=true) (h2:gc.contains y=true) (h3:(y==("__debug__":Str))=false):iD W fc y:=⟨by simpa using h1,H.b y (by simpa using h2),h3⟩
theorem Wf.gl (H:Wf W) {fc y a} (h1:(fc.names.lookup y==some NameKind.globalImplicit)=true) (h2:(gv.contains (y,a))=true) (h3:(y==("__debug__":Str))=false):cG W fc y a:=⟨by simpa using h1,H.g (y,a) (by simpa using h2),h3⟩
theorem Wf.v_len (H:Wf W):bootBuiltins "len"=some (.builtin "len"):=by decide +kernel
theorem Wf.v_list (H:Wf W):bootBuiltins "list"=some (.type "list"):=by decide +kernel
theorem Wf.v_int (H:Wf W):bootBuiltins "int"=some (.type "int"):=by decide +kernel
theorem Wf.v_sum (H:Wf W):bootBuiltins "sum"=some (.builtin "sum"):=by decide +kernel
theorem Wf.v_sorted (H:Wf W):bootBuiltins "sorted"=some (.builtin "sorted"):=by decide +kernel
theorem Wf.v_range (H:Wf W):bootBuiltins "range"=some (.type "range"):=by decide +kernel
theorem Wf.v_min (H:Wf W):bootBuiltins "min"=some (.builtin "min"):=by decide +kernel
theorem Wf.v_max (H:Wf W):bootBuiltins "max"=some (.builtin "max"):=by decide +kernel
theorem Wf.v_dict (H:Wf W):bootBuiltins "dict"=some (.type "dict"):=by decide +kernel
theorem Wf.v_enumerate (H:Wf W):bootBuiltins "enumerate"=some (.type "enumerate"):=by decide +kernel
theorem kR.at {a t q dv kv} (x:kR W a t q dv kv) (h:((dp t).kind== .function&&!(dp t).isCoroutine&&!(dp t).isGenerator)=true):∃ m tok,jL W a (Hh t q dv kv m tok (a - 1)) (pM t):=by
 simp only [Bool.and_eq_true,beq_iff_eq,Bool.not_eq_true'] at h
 obtain ⟨m,tok,h1,h2⟩:=x
 exact ⟨m,tok,⟨_,h1,rfl⟩,h2,rfl,h.1.2,h.2,h.1.1,rfl,rfl,rfl⟩
theorem kR.gn {a t q dv kv} (x:kR W a t q dv kv) (h:((dp t).kind== .function&&!(dp t).isCoroutine&&(dp t).isGenerator)=true):∃ m tok,Gd W a (Hh t q dv kv m tok (a - 1)) (pM t):=by
 simp only [Bool.and_eq_true,beq_iff_eq,Bool.not_eq_true'] at h
 obtain ⟨m,tok,h1,h2⟩:=x
 exact ⟨m,tok,⟨_,h1,rfl⟩,h2,rfl,h.1.2,h.2,h.1.1,rfl,rfl,rfl⟩
theorem oB {fd p1 p2 p3 p4 p5 kd df T s tok} (hp:fd.params={ posonlyargs:=[],args:=[{ arg:="a",annotation:=none,pos:=p1 },{ arg:="x",annotation:=none,pos:=p2 },{ arg:="lo",annotation:=none,pos:=p3 },{ arg:="hi",annotation:=none,pos:=p4 }],vararg:=none,kwonlyargs:=[{ arg:="key",annotation:=none,pos:=p5 }],kw_defaults:=kd,kwarg:=none,defaults:=df }) (hd:fd.defaults= .ref T) (ht:s.heap.get? T=some { cls:= .type "tuple",data:= .seq #[.int 0 tok,.none] }) (v1 v2 kv):BindsTo s fd ⟨[v1,v2],[("key",kv)]⟩ [("a",v1),("x",v2),("lo",.int 0 tok),("hi",.none),("key",kv)]:=by
 w_cond fd
 simp only at hp hd
 subst hp hd
 exact BindsTo.of_defaults rfl ht rfl rfl (by rfl)
theorem rN {fd p1 p2 p3 p4 p5 kd df T s tok} (hp:fd.params={ posonlyargs:=[],args:=[{ arg:="a",annotation:=none,pos:=p1 },{ arg:="x",annotation:=none,pos:=p2 },{ arg:="lo",annotation:=none,pos:=p3 },{ arg:="hi",annotation:=none,pos:=p4 }],vararg:=none,kwonlyargs:=[{ arg:="key",annotation:=none,pos:=p5 }],kw_defaults:=kd,kwarg:=none,defaults:=df }) (hd:fd.defaults= .ref T) (ht:s.heap.get? T=some { cls:= .type "tuple",data:= .seq #[.int 0 tok,.none] }) (v1 v2 v3 v4 kv):BindsTo s fd ⟨[v1,v2,v3,v4],[("key",kv)]⟩ [("a",v1),("x",v2),("lo",v3),("hi",v4),("key",kv)]:=by
 w_cond fd
 simp only at hp hd
 subst hp hd
 exact BindsTo.of_defaults rfl ht rfl rfl (by rfl)
theorem BindsTo.both {s:Shared} {fd:FuncData} {args:Args} {binds:List (Str×Value)} {T D:Addr} {o:Obj} {items:Array Value} {n:Nat} {m:Str->Option Value} {β γ:Type}
  {k:Option (Array Value)->Sem (List (Str×Value))} {g1:Option Value->Sem β} {g2:β->Sem γ} {g3:γ->Sem (List (Str×Value))} (hd:fd.defaults= .ref T) (ho:s.heap.get? T=some o) (hs:o.data= .seq items n) (hn:s.heap.Ns D m) (hm:m "key"=some .none)
  {b0:β} {c0:γ} (h₁:bindArgs fd args=seqItems? fd.defaults >>= k) (h₂:k (some items)=((nsGet D "key" >>= g1) >>= g2) >>= g3) (e1:g1 (some .none)=pure b0) (e2:g2 b0=pure c0) (e3:g3 c0=pure binds):BindsTo s fd args binds:=λU U U U hq=>by
 rw [h₁,hd]
 refine wpAny_bind (wpAny_seqItems ho hs ?_)
 rw [h₂]
 refine wpAny_bind (wpAny_bind (wpAny_bind (wpAny_nsGet hn ?_)))
 rw [hm,e1]
 refine wpAny_pure ?_
 rw [e2]
 refine wpAny_pure ?_
 rw [e3]
 exact wpAny_pure hq
theorem mU {fd p1 p2 p3 p4 p5 kd df T D s tok m} (hp:fd.params={ posonlyargs:=[],args:=[{ arg:="a",annotation:=none,pos:=p1 },{ arg:="x",annotation:=none,pos:=p2 },{ arg:="lo",annotation:=none,pos:=p3 },{ arg:="hi",annotation:=none,pos:=p4 }],vararg:=none,kwonlyargs:=[{ arg:="key",annotation:=none,pos:=p5 }],kw_defaults:=kd,kwarg:=none,defaults:=df }) (hd:fd.defaults= .ref T) (hk:fd.kwdefaults= .ref D) (ht:s.heap.get? T=some { cls:= .type "tuple",data:= .seq #[.int 0 tok,.none] }) (hn:s.heap.Ns D m) (hm:m "key"=some .none) (v1 v2):BindsTo s fd ⟨[v1,v2],[]⟩ [("a",v1),("x",v2),("lo",.int 0 tok),("hi",.none),("key",.none)]:=by
 w_cond fd
 simp only at hp hd hk
 subst hp hd hk
 exact BindsTo.both rfl ht rfl hn hm rfl rfl rfl rfl rfl
theorem CV {fd p1 p2 p3 p4 p5 kd df T D s tok m} (hp:fd.params={ posonlyargs:=[],args:=[{ arg:="a",annotation:=none,pos:=p1 },{ arg:="x",annotation:=none,pos:=p2 },{ arg:="lo",annotation:=none,pos:=p3 },{ arg:="hi",annotation:=none,pos:=p4 }],vararg:=none,kwonlyargs:=[{ arg:="key",annotation:=none,pos:=p5 }],kw_defaults:=kd,kwarg:=none,defaults:=df }) (hd:fd.defaults= .ref T) (hk:fd.kwdefaults= .ref D) (ht:s.heap.get? T=some { cls:= .type "tuple",data:= .seq #[.int 0 tok,.none] }) (hn:s.heap.Ns D m) (hm:m "key"=some .none) (v1 v2 v3 v4):BindsTo s fd ⟨[v1,v2,v3,v4],[]⟩ [("a",v1),("x",v2),("lo",v3),("hi",v4),("key",.none)]:=by
 w_cond fd
 simp only at hp hd hk
 subst hp hd hk
 exact BindsTo.both rfl ht rfl hn hm rfl rfl rfl rfl rfl
noncomputable def CZ:List (List Bool):=[[],[false,false,false,false,false,false],[false,false,false,false,false,false,false,false],[false,false,false,false,false,false],[false,false,false,false,false,false,false,false],[],[false,false,false,false,false],[false,false,false,false,false,false,false,false],[false,false,false,false,false,false],[],[],[false,false,false,false,false,false,false,false,false,false,false,false,false],[false,false,false,false,false,false,false,false],[false,false,false],[],[true,true,false,false,false,false,false,false],[false,false,false,false,false,false,false,false],[false,false,false,true],[false,false,false,false,false,false,false,false,false,false,false,false,false,false,false,false,false,false,false,false,false],[false,true,true,true,false,false,false,false,false,false,false,false,false,false],[false,true,false,false,true,false,true,true,false,false,true,false,true,true,false,false,false,false,false,false,true,true,true,false,true,false,true,true,false,false,false,false,false,false,true,false,false,false,false,false,false,false,false,true,true,true,true,false,false,false,false,false,false,false,false,false,false,false,false,false,false,false,false,false,false,false,false,false]]
noncomputable def gj (i:Nat):List Bool:=if i<21 then CZ.getD i [] else (jD i).names.map λp=>yq p.2
theorem Ju (i):gj i=(jD i).names.map λp=>yq p.2:=by
 by_cases h:i<21
 ·exact (if_pos h).trans ((show ∀ i,i<21->CZ.getD i []=(jD i).names.map λp=>yq p.2 by decide +kernel) i h)
 ·exact if_neg h
noncomputable def aH (i:Nat) (wn:List Str) (lam:Option (Addr×Addr×Str)):FC:=⟨(jD i).names,wn,lam,gj i,Ju i⟩
theorem G0:gj 1=[false,false,false,false,false,false]:=rfl
theorem G1:gj 2=[false,false,false,false,false,false,false,false]:=rfl
theorem G2:gj 3=[false,false,false,false,false,false]:=rfl
theorem G3:gj 4=[false,false,false,false,false,false,false,false]:=rfl
theorem G4:gj 6=[false,false,false,false,false]:=rfl
theorem G5:gj 7=[false,false,false,false,false,false,false,false]:=rfl
theorem G6:gj 8=[false,false,false,false,false,false]:=rfl
theorem C0:gj 11=[false,false,false,false,false,false,false,false,false,false,false,false,false]:=rfl
theorem C1:gj 12=[false,false,false,false,false,false,false,false]:=rfl
theorem C2:gj 13=[false,false,false]:=rfl
theorem C3:gj 15=[true,true,false,false,false,false,false,false]:=rfl
theorem C4:gj 16=[false,false,false,false,false,false,false,false]:=rfl
theorem C5:gj 17=[false,false,false,true]:=rfl
theorem C6:gj 18=[false,false,false,false,false,false,false,false,false,false,false,false,false,false,false,false,false,false,false,false,false]:=rfl
theorem C7:gj 19=[false,true,true,true,false,false,false,false,false,false,false,false,false,false]:=rfl
theorem C8:gj 20=[false,true,false,false,true,false,true,true,false,false,true,false,true,true,false,false,false,false,false,false,true,true,true,false,true,false,true,true,false,false,false,false,false,false,true,false,false,false,false,false,false,false,false,true,true,true,true,false,false,false,false,false,false,false,false,false,false,false,false,false,false,false,false,false,false,false,false,false]:=rfl
noncomputable def rh (fc:FC) (ts:List Expr):List Str:=ts.filterMap λe=>PySem.swappedStores.match_8 (motive:=λU=>Option Str) e
  (λid pos=>if fc.names.lookup id==some .local&&pos.line==(ts.head?.map (·.pos.line)).getD 0 then some id else none) λU=>none
theorem JD {α:Type} {c1 c2 c3} {n x:α} (h:c3=true):(if c1=true then n else if c2=true then n else if c3=true then n else x)=n:=by
 subst h;cases c1 <;> cases c2 <;> rfl
theorem JE {α:Type} {c1 c2 c3 c4 c5} {n x y:α} (h1:c1=false) (h2:c2=false) (h3:c3=false) (h4:c4=false) (h5:c5=false):(if c1=true then n else if c2=true then n else if c3=true then n else if c4=true then n else if c5=true then y else x)=x:=by
 subst h1 h2 h3 h4 h5;rfl
section
variable {n:Nat} {fc:FC} {env:Env}
theorem ri (eo:cx fc env) (ts):(ts.filterMap λe=>PySem.swappedStores.match_8 (motive:=λU=>Option Str) e
  (λid pos=>if env.kindOf id==some .local&&pos.line==(ts.head?.map (·.pos.line)).getD 0 then some id else none) λU=>none)=rh fc ts:=by
 unfold rh
 rw [(funext (bz eo):env.kindOf=λx=>fc.names.lookup x)]
theorem gD {ts es k k2 tp vp} (eo:cx fc env) (h:decide ((rh fc ts).length=ts.length)=false):swappedStores [.Tuple ts k tp] (.Tuple es k2 vp) env=pure none:=by
 refine JD (Bool.or_eq_true_iff.mpr (.inl ?_))
 have hne:((rh fc ts).length != ts.length)=true:=bne_iff_ne.mpr (of_decide_eq_false h)
 rw [<-ri eo ts] at hne
 exact hne
theorem eB {ts es k k2 tp vp} (names) (eo:cx fc env) (h1:(ts.length==2 || ts.length==3)=true) (h2:(es.length != ts.length)=false) (h3:(es.any λe=>PySem.swappedStores.match_5 (motive:=λU=>Bool) e (λU U=>true) λU=>false)=false) (h4:rh fc ts=names) (h5:(names.length != ts.length || names.eraseDups.length != names.length)=false) (h6:es.all (foldedForSure 8)=false) (h7:es.all (constantsAlone 8)=false):swappedStores [.Tuple ts k tp] (.Tuple es k2 vp) env=pure (some names):=by
 have hb:(env.blockKind != .function)=false:=by
  unfold Env.blockKind
  rw [eo.kind];rfl
 have e:=(ri eo ts).trans h4
 refine Eq.trans (JE ?_ h3 ?_ h6 h7) (congrArg (λx=>pure (some x)) e)
 ·show ((!(ts.length==2 || ts.length==3) || (es.length != ts.length)) || (env.blockKind != .function))=false
  rw [h1,h2,hb];rfl
 ·rw [<-e] at h5
  exact h5
theorem KW (eo:cx fc env):(env.blockKind==ScopeKind.function)=true:=by
 unfold Env.blockKind
 erw [eo.kind];rfl
theorem hH {y} {p pos spos:Pos} {elt tgt iter ifs scope} (eo:cx fc env) (h1:(fc.names.lookup y != some NameKind.local)=true):swapsWith (.ListComp elt [⟨tgt,iter,ifs,0⟩] scope pos) (some (.Name y p)) spos.line env=pure false:=by
 show (pure (env.blockKind==ScopeKind.function&&env.kindOf y==some NameKind.local&&p.line==pos.line&&!(scope.names.any λ(n,k)=>n==y&&(k== .local || k== .cell))):Sem Bool)=pure false
 have h:(env.kindOf y==some NameKind.local)=false:=by
  rw [bz eo y]
  simpa using h1
 erw [h];simp
theorem fX {y:Str} {p pos spos:Pos} {elt tgt iter:Expr} {ifs:List Expr} {scope:Scope} (eo:cx fc env) (h1:(fc.names.lookup y==some NameKind.local)=true) (h2:(p.line==pos.line)=true) (h3:(scope.names.any λ(n,k)=>n==y&&(k== .local || k== .cell))=false):swapsWith (.ListComp elt [⟨tgt,iter,ifs,0⟩] scope pos) (some (.Name y p)) spos.line env=pure true:=by
 show (pure (env.blockKind==ScopeKind.function&&env.kindOf y==some NameKind.local&&p.line==pos.line&&!(scope.names.any λ(n,k)=>n==y&&(k== .local || k== .cell))):Sem Bool)=pure true
 have h:(env.kindOf y==some NameKind.local)=true:=by
  rw [bz eo y];exact h1
 erw [h,KW eo,h2,h3];rfl
theorem Aa {y} {p pos spos:Pos} {kx vx tgt iter ifs scope} (eo:cx fc env) (h1:(fc.names.lookup y != some NameKind.local)=true):swapsWith (.DictComp kx vx [⟨tgt,iter,ifs,0⟩] scope pos) (some (.Name y p)) spos.line env=pure false:=by
 show (pure (env.blockKind==ScopeKind.function&&env.kindOf y==some NameKind.local&&p.line==pos.line&&!(scope.names.any λ(n,k)=>n==y&&(k== .local || k== .cell))):Sem Bool)=pure false
 have h:(env.kindOf y==some NameKind.local)=false:=by
  rw [bz eo y]
  simpa using h1
 erw [h];simp
theorem mE {y:Str} {p pos spos:Pos} {kx vx tgt iter:Expr} {ifs:List Expr} {scope:Scope} (eo:cx fc env) (h1:(fc.names.lookup y==some NameKind.local)=true) (h2:(p.line==pos.line)=true) (h3:(scope.names.any λ(n,k)=>n==y&&(k== .local || k== .cell))=false):swapsWith (.DictComp kx vx [⟨tgt,iter,ifs,0⟩] scope pos) (some (.Name y p)) spos.line env=pure true:=by
 show (pure (env.blockKind==ScopeKind.function&&env.kindOf y==some NameKind.local&&p.line==pos.line&&!(scope.names.any λ(n,k)=>n==y&&(k== .local || k== .cell))):Sem Bool)=pure true
 have h:(env.kindOf y==some NameKind.local)=true:=by
  rw [bz eo y];exact h1
 erw [h,KW eo,h2,h3];rfl
end
noncomputable def nw:List PV->Option (List Int)
 | []=>some []
 | x::xs=>(fG x).bind λi=>(nw xs).map (i::·)
noncomputable def sy (x:Int) (xs:List Int):Int:=xs.foldl (λm y=>if y<m then y else m) x
noncomputable def HS:List Int->Option PV
 | []=>none
 | x::xs=>some (.int (sy x xs))
noncomputable def zq (ds:List PV):Option PV:=(y9 ds).elim ((DB ds).bind λp=>(fG p.1).bind λa=>(fG p.2).map λb=> .int (if b<a then b else a)) λd=>(pA d).bind λxs=>(nw xs).bind HS
noncomputable def EY (ds:List PV):Option PV:=(DB ds).bind λp=>(fG p.1).bind λa=>(fG p.2).map λb=> .int (if b > a then b else a)
theorem vE {F:Heap} (xs:List PV):∀ {vs:List Value} {ns:List Int},ae W F vs xs->nw xs=some ns->∃ l:List (Int×Tok),vs=(l.map λp=> .int p.1 p.2)/\l.map (·.1)=ns/\xs=ns.map .int:=by
 induction xs with
 | nil=>
  intro vs ns hd h
  w_cond hd;w_cond h
  exact ⟨[],rfl,rfl,rfl⟩
 | cons x xs ih=>
  intro vs ns hd h
  obtain ⟨i,e1,h⟩:=ah h
  obtain ⟨r,e2,rfl⟩:=(aA h:_)
  obtain rfl:=aJ e1
  obtain ⟨v,us,rfl,d1,d2⟩:=hd.cons_inv
  obtain ⟨l,rfl,rfl,rfl⟩:=ih d2 e2
  cases d1 using Data.intE with | mk t=>exact ⟨(i,t)::l,rfl,rfl,rfl⟩
theorem sD (l:List (Int×Tok)) (i:Nat):numAt l.toArray i=(l.map (·.1)).getD i 0:=by
 unfold numAt
 rw [List.getD_eq_getElem?_getD,gY]
 simp
theorem wY (num:Nat->Int) (k:Nat):num (argBest (λi j=>decide (num i<num j)) k)=((List.range k).map λi=>num (i+1)).foldl (λm y=>if y<m then y else m) (num 0):=by
 induction k with
 | zero=>rfl
 | succ k ih=>
  rw [List.range_succ,List.map_append,List.foldl_append,<-ih]
  show num (if _ then _ else _)=_
  by_cases h:num (k+1)<num (argBest (λi j=>decide (num i<num j)) k)
  ·rw [if_pos (decide_eq_true h)]
   exact (if_pos h).symm
  ·rw [if_neg (λq=>h (of_decide_eq_true q))]
   exact (if_neg h).symm
theorem sE:gJ W 2 (λvs=>call (.builtin "max") vs) EY:=by
 intro A s μ vs ds r hA g ex hv h
 obtain ⟨⟨d1,d2⟩,e1,h⟩:=ah h
 obtain ⟨a,e2,h⟩:=ah h
 obtain ⟨b,e3,rfl⟩:=(aA h:_)
 obtain rfl:=gE e1
 obtain rfl:=aJ e2
 obtain rfl:=aJ e3
 obtain ⟨v,u,rfl,x1,x2⟩:=hv.two
 cases x1 using Data.intE with | mk t=>
 cases x2 using Data.intE with | mk t'=>
 refine max_two_ints hA.hd λh' tk k=>⟨?_,Gr.of_sub k⟩
 split
 ·exact .int _ _
 ·exact .int _ _
theorem mf:gJ W 2 (λvs=>call (.builtin "min") vs) zq:=by
 intro A s μ vs ds r hA g ex hv h
 unfold zq at h
 cases e:y9 ds with
 | none=>
  rw [e] at h
  obtain ⟨⟨d1,d2⟩,e1,h⟩:=ah h
  obtain ⟨a,e2,h⟩:=ah h
  obtain ⟨b,e3,rfl⟩:=aA h
  obtain rfl:=gE e1
  obtain rfl:=aJ e2
  obtain rfl:=aJ e3
  obtain ⟨v,u,rfl,x1,x2⟩:=hv.two
  cases x1 using Data.intE with | mk t=>
  cases x2 using Data.intE with | mk t'=>
  refine min_two_ints hA.hd λh' tk k=>⟨?_,Gr.of_sub k⟩
  split
  ·exact .int _ _
  ·exact .int _ _
 | some d=>
  rw [e] at h
  obtain ⟨xs,e2,h2⟩:=ah h
  obtain ⟨ns,e3,h3⟩:=ah h2
  clear h h2
  obtain rfl:=ez e
  obtain rfl:=cO e2
  obtain ⟨v,rfl,dv⟩:=hv.one
  cases dv using Data.listE with | mk a us ep e' n1 b=>
  obtain ⟨l,rfl,rfl,rfl⟩:=vE xs b e3
  cases l with
  | nil=>exact nS h3
  | cons p l=>
   obtain rfl:=sI (show some (PV.int (sy p.1 (l.map (·.1))))=some r from h3)
   have hl:s.heap.IsList a (intItems (p::l).toArray):=⟨_,av _ _ _ _ _ e',rfl,ep,by simp [intItems]⟩
   refine min_intList hA.hd hl (by simp) λv h' tk hP k=>⟨?_,Gr.of_sub k⟩
   obtain ⟨t,rfl⟩:=intItems_at hP
   have q:=wY (numAt (p::l).toArray) l.length
   have hz:(p::l).toArray.size - 1=l.length:=by simp
   rw [hz]
   have e0:sy p.1 (l.map (·.1))=numAt (p::l).toArray (argBest (λi j=>decide (numAt (p::l).toArray i<numAt (p::l).toArray j)) l.length):=by
    rw [q]
    unfold sy
    congr 1
    refine List.ext_getElem (by simp) λi h1 h2=>?_
    simp only [List.getElem_map,List.getElem_range]
    rw [sD,List.map_cons,List.getD_cons_succ,List.getD_eq_getElem?_getD,gY,List.getElem?_eq_getElem (by simpa using h1)]
    rfl
   show Data W _ (.int _ t) (.int (sy p.1 (l.map (·.1))))
   rw [e0]
   exact .int _ _
noncomputable def Dt (d e:PV):Option PV:=(vr d).bind λl=>(ES l).bind λc=>(fG e).bind λn=>if n.natAbs<100000 then some (.str (List.replicate n.toNat c)) else none
theorem rf {x:Str} {l:List Nat} (h:x.cps.toList=l):x=bM l:=by
 obtain ⟨a⟩:=x
 show (⟨a⟩:Str)=⟨l.toArray⟩
 rw [<-h]
theorem uH:tj W (binaryOp .Mult) Dt:=by
 intro A s μ a b da db r hA g ex ha hb h
 obtain ⟨l,e1,h⟩:=ah h
 obtain ⟨c,e2,h2⟩:=(ah h:_)
 obtain ⟨n,e3,h3⟩:=(ah h2:_)
 obtain ⟨hn,h4⟩:=bI h3
 obtain rfl:=dW e1
 obtain rfl:=aJ e3
 obtain rfl:=qJ e2
 obtain ⟨⟨t,rfl⟩,n1⟩:=ha.strI
 obtain ⟨u,rfl⟩:=hb.intI
 obtain rfl:=sI h4
 refine SB.mul ⟨?_,λh1 U=>?_,λh1 U=>?_⟩ λt' k=>?_
 ·rw [Bool.or_eq_false_iff]
  exact ⟨decide_eq_false (by w_fin),decide_eq_false (by w_fin)⟩
 ·show ¬ ((1:Int) > (2 ^ 63 - 1) / n)
  have:(1:Int)<=(2 ^ 63 - 1) / n:=(Int.le_ediv_iff_mul_le (by w_fin)).mpr (by w_fin)
  w_fin
 ·show Builtin.Str.tooLong (1 * n.toNat)=false
  unfold Builtin.Str.tooLong
  exact decide_eq_false (by rw [sizeLine_eq];w_fin)
 ·rw [rf (mul_one_list c n)]
  exact ⟨.str _ _ (by rw [List.length_replicate];unfold be;w_fin),Gr.tok _⟩
theorem jR {h:Heap} {a o o' T T'} {P:Prop} (e1:h.get? a=some o) (e2:h.get? a=some o') (h1:o.cls= .type T) (h2:o'.cls= .type T') (hne:T≠T'):P:=by
 rw [e1] at e2
 obtain rfl:=sI e2
 exact absurd (Value.type.inj (h1.symm.trans h2)) hne
set_option tactic.hygienic true in
theorem pI {k:Nat} {h:Heap} (ih:∀ {v d d' e b b'},Data W h v d->Data W h v d'->gM k d e=some b->gM k d' e=some b'->b=b') {vs xs} (x:ae W h vs xs):∀ {xs' ys b b'},ae W h vs xs'->eH (List.zipWith (gM k) xs ys)=some b->eH (List.zipWith (gM k) xs' ys)=some b'->b=b':=by
 refine ae.ind (P:=λvs xs=>∀ {xs' ys b b'},ae W h vs xs'->eH (List.zipWith (gM k) xs ys)=some b->eH (List.zipWith (gM k) xs' ys)=some b'->b=b') (λy q q'=>?_) (λ{v d vs ds} a r ihl {xs' ys b b'} y q q'=>?_) x
 ·w_cond y
  exact sI (q.symm.trans q')
 ·cases y with | cons a' r'=>
  cases ys with
  | nil=>exact sI (q.symm.trans q')
  | cons e ys=>
   rename_i d' ds'
   rw [List.zipWith_cons_cons] at q q'
   cases h1:gM k d e with
   | none=>rw [h1] at q;exact nS q
   | some c=>
    cases h2:gM k d' e with
    | none=>rw [h2] at q';exact nS q'
    | some c'=>
     rw [h1] at q
     rw [h2] at q'
     obtain ⟨t,g1,rfl⟩:=(aA q:_)
     obtain ⟨t',g2,rfl⟩:=(aA q':_)
     rw [ih a a' h1 h2,ihl r' g1 g2]
theorem Bq {h:Heap} (k:Nat):∀ {v d d' e b b'},Data W h v d->Data W h v d'->gM k d e=some b->gM k d' e=some b'->b=b':=by
 have flat:∀ {v d d' e b b'},Data W h v d->Data W h v d'->rV d e=some b->rV d' e=some b'->b=b':=λx y q q'=>by
  obtain rfl:=oM q x y
  exact sI (q.symm.trans q')
 induction k with
 | zero=>exact λx y q q'=>flat x y q q'
 | succ k ih=>
  intro v d d' e b b' x y q q'
  cases d with
  | list xs=>
   obtain ⟨a,vs,ep,rfl,e1,_,d1⟩:=x.lI
   cases y with
   | list e2 _ d2=>
    obtain rfl:=eM e1 e2
    cases e with
    | list ys=>
     have hl:=d1.length.symm.trans d2.length
     by_cases hq:xs.length=ys.length
     ·exact pI ih d1 d2 ((if_pos hq).symm.trans q) ((if_pos (hl ▸ hq)).symm.trans q')
     ·exact sI (((if_neg hq).symm.trans q).symm.trans ((if_neg (hl ▸ hq)).symm.trans q')) |>.symm ▸ rfl
    | _=>exact nS q
   | tuple e2 _ _=>exact jR e1 e2 rfl rfl (by decide)
   | dS e2 _ _ _ _ _=>obtain ⟨o,es,g1,g2,_⟩:=e2;exact jR e1 g1 rfl g2.1 (by decide)
   | dI e2 _ _ _ _=>obtain ⟨o,es,g1,g2,_⟩:=e2;exact jR e1 g1 rfl g2.1 (by decide)
  | tuple xs=>
   obtain ⟨a,vs,ep,rfl,e1,_,d1⟩:=x.tI
   cases y with
   | tuple e2 _ d2=>
    obtain rfl:=rm e1 e2
    cases e with
    | tuple ys=>
     obtain ⟨_,q⟩:=bI q
     obtain ⟨_,q'⟩:=bI q'
     exact pI ih d1 d2 q q'
    | _=>exact nS q
   | list e2 _ _=>exact jR e1 e2 rfl rfl (by decide)
   | dS e2 _ _ _ _ _=>obtain ⟨o,es,g1,g2,_⟩:=e2;exact jR e1 g1 rfl g2.1 (by decide)
   | dI e2 _ _ _ _=>obtain ⟨o,es,g1,g2,_⟩:=e2;exact jR e1 g1 rfl g2.1 (by decide)
  | dS ks xs=>exact nS q
  | dI ks xs=>exact nS q
  | _=>
   obtain rfl:=oM q x y
   exact sI (q.symm.trans q')
noncomputable def yf (d:PV):List PV->Option Nat
 | []=>none
 | x::r=>(gM 4 x d).bind λa=>if a then some 0 else (yf d r).map (·+1)
noncomputable def Jq (d:PV) (xs:List PV):Bool:=xs.all λx=>(gM 4 x d).isSome
noncomputable def o7 (ds:List PV):Option PV:=(DB ds).bind λp=>(pA p.1).bind λxs=>if Jq p.2 xs then (yf p.2 xs).map λj=> .int (j:Nat) else none
open Classical in
noncomputable def lX (h:Heap) (d:PV) (v:Value):Bool:=decide (∃ x,Data W h v x/\gM 4 x d=some true)
theorem qv {h v x d b} (hx:Data W h v x) (q:gM 4 x d=some b):lX h d v=b:=by
 unfold lX
 cases b with
 | true=>simp only [decide_eq_true_eq];exact ⟨x,hx,q⟩
 | false=>
  simp only [decide_eq_false_iff_not]
  rintro ⟨x',hx',q'⟩
  exact absurd (Bq 4 hx hx' q q') (by decide)
theorem yh {h:Heap} {d:PV} {vs:List Value} {xs:List PV} (x:ae W h vs xs):∀ {j:Nat},yf d xs=some j->j<vs.length/\(∃ v,vs[j]? =some v/\lX h d v=true)/\∀ (m:Nat) (v:Value),m<j->vs[m]? =some v->lX h d v=false:=by
 refine ae.ind (P:=λvs xs=>∀ {j:Nat},yf d xs=some j->j<vs.length/\(∃ v,vs[j]? =some v/\lX h d v=true)/\∀ (m:Nat) (v:Value),m<j->vs[m]? =some v->lX h d v=false) (λq=>nS q) (λ{v d' us ds} a r ih j q=>?_) x
 obtain ⟨c,h1,h2⟩:=(ah q:_)
 have he:=qv a h1
 cases c with
 | true=>
  obtain rfl:=sI (show some 0=some j from h2)
  exact ⟨Nat.succ_pos _,⟨v,rfl,he⟩,λm w hm=>absurd hm (Nat.not_lt_zero m)⟩
 | false=>
  obtain ⟨k,h3,rfl⟩:=aA (show (yf d ds).map (·+1)=some j from h2)
  obtain ⟨a1,a2,a3⟩:=ih h3
  refine ⟨Nat.succ_lt_succ a1,a2,λm w hm e=>?_⟩
  cases m with
  | zero=>obtain rfl:=sI (show some v=some w from e);exact he
  | succ m=>exact a3 m w (Nat.lt_of_succ_lt_succ hm) e
theorem za:gJ W 0 (λvs=>call (.builtin "list.index") vs) o7:=by
 intro A s μ vs ds r hA g ex hv h
 obtain ⟨⟨d1,d⟩,e1,h1⟩:=(ah h:_)
 obtain ⟨xs,e2,h2⟩:=(ah h1:_)
 obtain ⟨e3,h3⟩:=bI h2
 obtain ⟨j,e4,rfl⟩:=(aA h3:_)
 obtain rfl:=gE e1
 obtain rfl:=cO e2
 obtain ⟨v,u,rfl,x1,x2⟩:=hv.two
 cases x1 using Data.listE with | mk a us ep e n1 dd=>
 have e':=av _ _ _ _ _ e
 have dd':=ae.sub (av W s.heap μ) dd
 obtain ⟨a1,⟨w,a2,a3⟩,a4⟩:=yh dd' e4
 have hj:j<us.toArray.size:=by simpa using a1
 refine call_meets F.slot_list_index (show s.TypeIs (.ref a) "list" from ⟨_,e',rfl⟩) F.entry_list_index (F.args_list_index_2 _ _) (SeqAt.list_indexAt a us.toArray ep _ _ u (lX s.heap d) j hj (by unfold be at n1;w_fin) ?_ λm hm hlt=>?_) ⟨e',λy hy=>?_,⟨.int _ _,Gr.tok _⟩⟩
 ·have:us.toArray[j]=w:=by
   have:=a2
   rw [List.getElem?_eq_getElem a1] at this
   simpa using this
  rw [this];exact a3
 ·exact a4 m _ hlt (by rw [List.getElem?_eq_getElem (by simpa using hm)];simp)
 ·obtain ⟨i,hi,rfl⟩:=List.getElem_of_mem (show y∈us by simpa using hy)
  obtain ⟨x,q1,q2⟩:=dd'.getV (List.getElem?_eq_getElem hi)
  obtain ⟨b,q3⟩:=Option.isSome_iff_exists.mp (List.all_eq_true.mp e3 x (List.mem_of_getElem? q1))
  rw [qv q2 q3]
  exact oN (by have:=hA.units;show A.units+1+4<cLine;w_fin) q3 q2 (Data.sub (av W s.heap μ) x2)
noncomputable def H2 (ds:List PV):Option PV:=(y9 ds).bind λd=>if (Cu d).isSome then some d else none
theorem BS:gJ W 2 (λvs=>call (.type "dict") vs) H2:=by
 intro A s μ vs ds r hA g ex hv h
 obtain ⟨d,e1,h2⟩:=(ah h:_)
 obtain ⟨h3,h4⟩:=bI h2
 obtain ⟨⟨ks,xs⟩,h5⟩:=Option.isSome_iff_exists.mp h3
 obtain rfl:=sI h4
 obtain rfl:=ez e1
 obtain ⟨v,rfl,dv⟩:=hv.one
 have dv:=hU h5 dv
 cases dv using Data.dIE with | mk a kvs ep e n1 m1 b q=>
 have e':=e.keep (av W s.heap μ)
 have hn:s.heap.get? s.heap.objs.size=none:=aK _
 refine kt_call_dict (knd:=intKind W.prog W.w) (by simpa using q) e'.dictOf (bj n1) λh' hd hk=>?_
 have k:bF s.heap h':=λp o ho=>(hk.2 p (λw=>by rw [w,hn] at ho;w_cond ho)).trans (Heap.get?_push_of_some _ ho)
 obtain ⟨o,es,ep',q1,q2⟩:=hd
 have hz:=sf g ex hn q1
 exact ⟨Af h5 (.dI ⟨o,es,hz,q2⟩ n1 m1 (b.sub (ax λb o n1 n2 e=>⟨n2,k b o e⟩)) (λw=>by
  obtain ⟨o',ho'⟩:=g.ok.sysm
  rw [<-w] at ho'
  have:=g.top _ _ ho'
  rw [hn] at this;w_cond this)),Gr.of_sub k⟩
section
variable {n:Nat} {fc:FC} {env:Env} {κ:List Addr} {B:aN} {ω:List Addr} {st:List SV} {s:Shared} {A:Around}
theorem BZ {z:Str} {pz bpos ppos:Pos} {e:Expr} {fi:List SV->Option SV} {l:Nat} {k:Int} {ys:List PV} {v:PV} (hA:cf n A) (x:bD W fc env κ B ω st s) (hl:bv fc z l=true) (hi:SE W n fc e fi) (h1:de fi st=some (.int k)) (hy:st[l]? =some (.own (.list ys))) (hk0:0<=k) (hv:ys[k.toNat]? =some v)
  (hbase2:∀ env,attributeBase (.Name z pz) "pop" env (eval (.Name z pz) env)=eval (.Name z pz) env:=by w_left) (hfew2:∀ env,((backTo ppos (starEach [e] env)).all (λx=>!x.1)&&(backToKw ppos (keywordEach [] env)).all (λx=>x.1.isSome)&&decide (([e]:List Expr).length + ([]:List Keyword).length + (if ([]:List Keyword).isEmpty then 0 else 1)<30))=true:=by w_left) (hline2:(bpos.endLine==ppos.line)=true:=by rfl) (he:∀ env,starEach [e] env=(false,eval e env)::starEach [] env:=by w_left):
  wpAny W.M A (eval (.Call (.Attribute (.Name z pz) "pop" bpos) [e] [] ppos) env) (λu s'=>bD W fc env κ B ω (st.set l (.own (.list (ys.eraseIdx k.toNat)))) s'/\bR W κ ω s s'/\Data W (fz W s'.heap (aq B κ ω)) u v) (λU U=>False) s:=by
 obtain ⟨m,cm,y₁⟩:=x
 obtain ⟨yk,a2,f1,f2,f3,c2,ld2⟩:=dE y₁ hl hy
 haveI hc2:∃ vs ep,s.heap.get? a2=some (cj vs ep):=by cases c2 using aB.listE with | mk _ _ g2 _ _=>exact ⟨_,_,g2⟩
 obtain ⟨vs0,ep0,g0⟩:=hc2
 refine wpAny_Call_method (hbase2 env) (hfew2 env) hline2 F.plainAttrs_list F.slot_list_pop F.type_list_pop (ld2 _ _ _ _ _ ⟨⟨_,g0,rfl⟩,λa' q=>by w_cond q;exact ⟨_,g0,rfl⟩,callWith_method1 (wpAny_items_cons (wpAny_mono (hi A env κ B ω st s _ hA ⟨m,cm,y₁⟩ (aT h1)) (λiv s₁ z=>?_) λU U q=>q) (he env)) (he env) rfl⟩)
 refine wpAny_items_nil ?_
 obtain ⟨zd,gz⟩:=z
 cases zd using Data.intE with | mk tok=>
 have y₂:=y₁.gr gz
 have ha2:=lh y₂ hy f1 f3
 have c2':aB W s₁.heap (fz W s₁.heap (aq B κ ω)) a2 (.list ys):=c2.move (λo e=>gz.kp _ _ (y₁.gi.notin g0 λvs q=>by w_cond q) e) (bo _ gz.kp)
 cases c2' using aB.listE with | mk us ep2 g2 n2 b2=>
 obtain ⟨u,hu,hud⟩:=b2.get hv
 have hlt:k.toNat<us.length:=(List.getElem?_eq_some_iff.mp hu).1
 have hlt2:k<us.length:=by w_fin
 refine call_meets F.slot_list_pop ⟨_,g2,rfl⟩ F.entry_list_pop (F.args_list_pop_2 _ _) (PySem.MeetsSeq.list_pop_at a2 us.toArray ep2 k tok k.toNat u (fitsIndex_of hk0 (by unfold be at n2;w_fin)) (by rw [List.size_toArray];exact lZ (by unfold kJ;rw [if_pos hk0,if_pos hlt2])) (by simpa using hu) (by rw [List.size_toArray];exact bj n2)) ⟨g2,?_⟩
 obtain ⟨ep',e'⟩:=fY (us:=us.eraseIdx k.toNat) g2 (λxs=>xs.eraseIdxIfInBounds k.toNat) (by simp)
 have hsb:Heap.SameBut a2 s₁.heap (s₁.heap.update a2 (Obj.mapSeq λxs=>xs.eraseIdxIfInBounds k.toNat)):=Heap.SameBut.update ..
 generalize s₁.heap.update a2 (Obj.mapSeq λxs=>xs.eraseIdxIfInBounds k.toNat)=h₂ at e' hsb ⊢
 have sub:=gU hsb ha2
 have b3:ae W (fz W s₁.heap (aq B κ ω)) (us.eraseIdx k.toNat) (ys.eraseIdx k.toNat):=by
  rw [List.eraseIdx_eq_take_drop_succ,List.eraseIdx_eq_take_drop_succ]
  exact (b2.take _).append (b2.drop _)
 obtain ⟨y₃,g₃⟩:=y₂.updOwn (tk:=s₁.toks) hy f1 f2 f3 hsb (aB.list (F:=fz W s₁.heap (aq B κ ω)) g2 n2 b2) (aB.list e' (by rw [List.length_eraseIdx];split <;> w_fin) (b3.sub sub))
 exact ⟨⟨m,cm,y₃⟩,(bR.of_gr gz).trans (λb hb=> .inl hb) g₃,hud.sub sub⟩
noncomputable def zB (fc:FC) (i l:Nat) (fi:List SV->Option SV) (st:List SV):Option (List SV×Fl):=(de fi st).bind λd=>(fG d).bind λk=>(mQ (cn st l)).bind λys=>
 if 0<=k then (ys[k.toNat]?).map λv=>(cF fc (fV st l (.own (.list (ys.eraseIdx k.toNat)))) i (.d v),.next) else none
theorem wL {y z:Str} {py pz bpos ppos pos:Pos} {e:Expr} {fi:List SV->Option SV} (i l:Nat) (hw:eV fc y i=true) (hl:bv fc z l=true) (hi:SE W n fc e fi) (hs:∀ env,cx fc env->swapsWith (.Call (.Attribute (.Name z pz) "pop" bpos) [e] [] ppos) (some (.Name y py)) pos.line env=pure false:=by w_left)
  (hbase2:∀ env,attributeBase (.Name z pz) "pop" env (eval (.Name z pz) env)=eval (.Name z pz) env:=by w_left) (hfew2:∀ env,((backTo ppos (starEach [e] env)).all (λx=>!x.1)&&(backToKw ppos (keywordEach [] env)).all (λx=>x.1.isSome)&&decide (([e]:List Expr).length + ([]:List Keyword).length + (if ([]:List Keyword).isEmpty then 0 else 1)<30))=true:=by w_left) (hline2:(bpos.endLine==ppos.line)=true:=by rfl) (he:∀ env,starEach [e] env=(false,eval e env)::starEach [] env:=by w_left):
  SX W n fc (.Assign [.Name y py] (.Call (.Attribute (.Name z pz) "pop" bpos) [e] [] ppos) pos) (zB fc i l fi):=by
 intro A env κ B ω st s out hA x h
 obtain ⟨d,h1,h2⟩:=(ah h:_)
 obtain ⟨k,h3,h4⟩:=(ah h2:_)
 obtain ⟨ys,hy,h5⟩:=(ah h4:_)
 obtain ⟨hk0,h6⟩:=bI h5
 obtain ⟨v,hv,rfl⟩:=(aA h6:_)
 rw [bV] at hy
 rw [b7]
 obtain rfl:=aJ h3
 refine wpAny_Assign_Name (wpAny_mono (BZ hA x hl hi h1 (fU hy) hk0 hv hbase2 hfew2 hline2 he) (λu s₁ w=>?_) λU U q=>q) (hs env (let ⟨_,_,q⟩:=x;q.eo))
 obtain ⟨⟨m,cm,x₁⟩,g,dv⟩:=w
 exact wpAny_mono (cu (sv:= .d v) hw x₁ dv (λf e=>by w_cond e) λd a e=>by w_cond e) (λU s₂ w=>bf.step g (λb hb=> .inl hb) (bf.of_inv rfl w.2 w.1 λb hb=> .inl hb)) λU U q=>q
noncomputable def oV:SV->Option Bool
 | .fn _=>some false
 | .d d=>if d.flat then some (match d with | .none=>true | _=>false) else none
 | _=>none
theorem jg {y p pos cp k} (i) (hy:bv fc y i=true):ST W n fc (.Compare (.Name y p) [.Is] [.Constant .none k cp] pos) (λst=>(rd st i).bind oV):=by
 intro A env κ B ω st s b hA x h
 obtain ⟨sv,h1,h2⟩:=(ah h:_)
 cases sv with
 | fn f=>exact wF i hy A env κ B ω st s b hA x ((congrArg (λo=>(Df o).map λU=>false) h1).trans h2)
 | d d=>
  obtain ⟨h3,h4⟩:=bI h2
  refine aC xd (ac i hy) iO rfl A env κ B ω st s b hA x (Option.bind_eq_some_iff.2 ⟨d,Option.bind_eq_some_iff.2 ⟨_,h1,rfl⟩,Option.bind_eq_some_iff.2 ⟨.none,rfl,?_⟩⟩)
  cases d <;> exact h4
 | _=>exact nS h2
theorem kS {k np a fd body names ix fb dvs dsv} (F:jL W a fd body) (hfc:fd.scope.names=fc.names) (hck:iT fc=true) (hix:b5 fc names ix=true) (hb:SS W k fc body fb) (hbind:∀ (s:Shared) (vs:List Value),GI W s->vs.length=np->BindsTo s fd ⟨vs,[]⟩ (names.zip (vs++dvs))) (hnp:np + dvs.length=names.length) (hd:∀ (h:Heap) (μ ν:List Addr),aS W h μ ν dvs dsv)
  (hlam:∀ t,fc.lam=some t->fd.code= .ref t.1/\fd.qualname++Str.ofString ".<locals>."++Str.ofString "<lambda>"=t.2.2:=by intro t h;w_cond h):
  gJ W (k+1) (λvs=>call (.ref a) vs) (λds=>if ds.length=np then dy (bC fc ix fb (ds.map .d++dsv)) else none):=by
 intro A s μ vs ds r hA g ex hv h
 obtain ⟨h1,h2⟩:=bI h
 have hl:vs.length=np:=hv.length.trans h1
 refine wpAny_call (codeAny_mono (jq F hfc hck hix hb.f hlam (vs:=vs++dvs) (μ:=μ) (ν:=[]) (hbind s vs g hl W.M) (by rw [jt,hl];exact hnp) hA g ex (λb hb=>by w_cond hb) (λb hb=>by w_cond hb) ((aS.of_data hv).append (hd _ _ _)) (c7 h2)) λr s' y=>?_)
 obtain ⟨v,rfl,hvr,gr⟩:=y
 exact ⟨hvr,gr⟩
noncomputable def De:PV->Bool
 | .list xs=>xs.all PV.flat
 | _=>false
theorem F9 {e f} (is) (hf:SF W n fc e f):SF W n fc e (λst=>(dH is st).bind λst'=>(f st').bind λd=>if De d then some d else none):=by
 intro A env κ B ω st s sv hA x h
 obtain ⟨st',h1,h2⟩:=(ah h:_)
 obtain ⟨ω',y,hω⟩:=x.frzs is h1
 obtain ⟨d,e1,h2⟩:=ah h2
 obtain ⟨hd,h2⟩:=bI h2
 obtain rfl:=sI h2
 refine wpAny_mono (hf A env κ B ω' st' s _ hA y e1) (λv s₁ z=>?_) λU U q=>q
 obtain ⟨⟨a,rfl,ha,c⟩,g⟩:=z
 refine ⟨⟨a,rfl,ha,?_⟩,g⟩
 cases c with
 | @list vs ep xs e2 n1 b=>
  refine .list e2 n1 (ae.of_get b.length λi v d e3 e4=>?_)
  obtain ⟨d',e5,e6⟩:=b.getV e3
  rw [e4] at e5
  obtain rfl:=sI e5
  exact Data.flat e6 (List.all_eq_true.mp hd d (List.mem_of_getElem? e4)) _
 | _=>w_cond hd
end
section
variable {n:Nat} {fc:FC} {env:Env} {κ:List Addr} {B:aN} {ω:List Addr} {st:List SV} {s s':Shared} {m cm:Str->Option Value} {A:Around}
theorem GI.updF {I:List Addr} (g:GI W s) (hk:∀ b o,b∉I->s.heap.get? b=some o->s'.heap.get? b=some o) (hb:AllBare s'.gens) (hI:∀ a∈I,W.G.get? a=none/\∃ oa,s.heap.get? a=some oa/\∀ vs,oa.data≠ .fields vs):GI W s':=by
 refine ⟨g.ok,λb o e=>hk b o (λq=>by rw [(hI b q).1] at e;w_cond e) (g.top b o e),λt ht=>?_,hb⟩
 obtain ⟨ps,x,y,z⟩:=g.tab t ht
 have no:∀ {b o vs},s.heap.get? b=some o->o.data= .fields vs->b∉I:=λe hd q=>by
  obtain ⟨oa,e',nd⟩:=(hI _ q).2
  rw [e] at e';w_cond e';exact nd _ hd
 obtain ⟨o,vs,file,tf,flags,tg,inF,text,tt,op,a,r1,r2,r3,r4,r5,r6,b,r7,r⟩:=x
 obtain ⟨⟨o2,vs2,a2,r8,r9,r10⟩,b2⟩:=y
 refine ⟨ps,⟨o,vs,file,tf,flags,tg,inF,text,tt,op,hk _ _ (no a r1) a,r1,r2,r3,r4,r5,r6,hk _ _ (no b r7) b,r7,r⟩,⟨⟨o2,vs2,hk _ _ (no a2 r9) a2,r8,r9,r10⟩,hk _ _ (no b2 rfl) b2⟩,λpos c' e=>?_⟩
 obtain ⟨c,o,vs,t,e1,e2,e3,e4⟩:=z pos c' e
 exact ⟨c,o,vs,t,e1,hk _ _ (no e2 e3) e2,e3,e4⟩
theorem aR.land (x:aR W fc env κ B ω st s m cm) {i:Nat} {y:Str} {m':Str->Option Value} (hi:fc.names[i]? =some (y,.local)) (hu:st[i]? =some .u) (k:∀ b o,b∉W.T->b≠env.locals->s.heap.get? b=some o->s'.heap.get? b=some o) (gi:GI W s') (hn:s'.heap.Ns env.locals m') (hm:∀ z,z≠y->m' z=m z)
  (gens:∀ (i:Nat) (x:GenState),s.gens[i]? =some x->s'.gens[i]? =some x) (os:s'.os=s.os) (dom:∀ b,s'.heap.get? b=none->s.heap.get? b=none):aR W fc env κ B ω st s' m' cm/\bR W κ ω s s':=by
 have hL1:env.locals∈aq B κ ω:=lR _ (lR _ x.lω)
 have hL2:env.locals∈bw B ω:=lR _ x.lω
 have s1:∀ μ,env.locals∈μ->bF (fz W s.heap μ) (fz W s'.heap μ):=λμ h=>ax λb o n1 n2 e=>⟨n2,k b o n1 (λq=>n2 (q ▸ h)) e⟩
 have val_eq:∀ {j:Nat} {xk:Str×NameKind} {sv:SV},st[j]? =some sv->sv≠ .u->fc.names[j]? =some xk->bp m' cm xk=bp m cm xk:=λ{j xk sv} h hs hj=>by
  obtain ⟨z,kk⟩:=xk
  cases kk with
  | «local»=>
   refine hm z ?_
   rintro rfl
   obtain rfl:=nF x.nd hj hi
   rw [hu] at h
   exact hs (sI h).symm
  | _=>rfl
 obtain ⟨oL,hoL,hdL⟩:=aI hn
 refine ⟨{ x with
  gi:=gi
  ns:=hn
  cells:=λz c1 h=>by
   obtain ⟨o,e,hd⟩:=x.cells z c1 h
   exact ⟨o,k _ _ (x.gi.notin e λvs q=>by ctx_has hd q) (λq=>x.cω z c1 h (q ▸ x.lω)) e,hd⟩
  vars:=λj sv h=>?_
  apart:=λj l d d' xk yk a h1 h2 h3 h4 h5 h6=>x.apart j l d d' xk yk a h1 h2 h3 h4 ((val_eq h1 (λq=>by w_cond q) h3).symm.trans h5) ((val_eq h2 (λq=>by w_cond q) h4).symm.trans h6)
  noL:=λj d xk a h1 h2 h3=>x.noL j d xk a h1 h2 ((val_eq h1 (λq=>by w_cond q) h2).symm.trans h3)
  oω:=λj d xk a h1 h2 h3=>x.oω j d xk a h1 h2 ((val_eq h1 (λq=>by w_cond q) h2).symm.trans h3)
  ex:=λb hb=>by
   obtain ⟨o,e⟩:=x.ex b hb
   cases e':s'.heap.get? b with
   | none=>rw [dom b e'] at e;w_cond e
   | some o=>exact ⟨o,rfl⟩
  nc:=λb hb o e=>by
   by_cases q:b=env.locals
   ·subst q;rw [hoL] at e;w_cond e;exact .of hdL
   ·by_cases hT:b∈W.T
    ·exact dw gi hT e
    ·obtain ⟨o',e'⟩:=x.ex b (bD.νhid ⟨m,cm,x⟩ b hb)
     have:=k b o' hT q e'
     rw [e] at this;w_cond this
     exact x.nc b hb o e' },⟨λb o nb e=>k b o (λq=>nb (cY _ q)) (λq=>nb (lR _ (lR _ (q ▸ x.lω)))) e,gens,os,dom⟩⟩
 by_cases hs:sv= .u
 ·exact .inl hs
 ·refine (x.vars j sv h).imp id λ⟨yk,u,p,q,r,t⟩=>⟨yk,u,p,q,(val_eq h hs p).trans r,t.move ⟨s1 _ hL1,s1 _ hL2⟩ λd1 e1 a1 e2 o e3 hd=>k a1 o (x.gi.notin e3 hd) (λe=>?_) e3⟩
  subst e1 e2
  exact x.noL j d1 yk a1 h p r e
def Ge (msg:List Nat) (s:Shared) (ev:Value) (s':Shared):Prop:=∃ s₁ e h' tok,Gr W s s₁/\ev= .ref e/\Heap.MadeExc s₁.heap h' e "ValueError" [.str (bM msg) tok]/\s'={ s₁ with heap:=h' }
theorem qY {yl:Str} {p1 p2 p3 q1 q2 q3 q4 q5:Pos} {k1 k2} {els rest:List Stmt} {xm:Str} {msg:List Nat} {i:Nat} {k:Int} (hA:cf n A) (x:bD W fc env κ B ω st s) (hb:iD W fc "ValueError") (hy:bv fc yl i=true) (hlo:rd st i=some (.d (.int k))) (hk:k<0) (hl:(decide (xm=bM msg)&&decide (msg.length<=be))=true):
  wpAny W.M A (execs (.If (.Compare (.Name yl p1) [.Lt] [.Constant (.int 0) k1 p2] p3) [.Raise (some (.Call (.Name "ValueError" q1) [.Constant (.str xm) k2 q2] [] q3)) none q4] els q5::rest) env) (λU U=>False) (Ge msg s) s:=by
 have hT:ST W n fc (.Compare (.Name yl p1) [.Lt] [.Constant (.int 0) k1 p2] p3) _:=aC jP (ac i hy) ai rfl
 refine wpAny_execs_cons (wpAny_If (wpAny_mono (hT A env κ B ω st s true hA x ?_) (λb s₁ y=>?_) λU U q=>q.elim))
 ·show ((Option.bind (rd st i) qU).bind λa=>(Option.bind (some (SV.d (.int 0))) qU).bind λb=>GR a b)=some true
  rw [hlo]
  exact congrArg some (decide_eq_true hk)
 ·obtain ⟨rfl,g⟩:=y
  have x₁:=x.gr g
  refine wpAny_execs_cons (wpAny_Raise_call PySem.F.excCall_ValueError PySem.F.excRaise_ValueError hA.hd (by rfl) (dD hb tb_g% (by decide) x₁ ⟨rfl,evalArgs_plain (wpAny_mono ((ad (bU msg hl) ag:gb W n fc _ _) A env κ B ω st s₁ [.str msg] q3 hA x₁ rfl) (λvs s₂ z=>?_) λU U q=>q.elim)⟩))
  obtain ⟨zd,g2⟩:=z
  obtain ⟨v,rfl,dv⟩:=zd.one
  obtain ⟨⟨t,rfl⟩,_⟩:=RV.strI (h:=s₂.heap) (.inl dv)
  exact ⟨rfl,by show 1<=sizeLine;rw [sizeLine_eq];decide,λh' e hm=>⟨s₂,e,h',t,g.trans g2,rfl,hm,rfl⟩⟩
structure wH (msg:List Nat) (L:Addr) (outer:List Env) (e:Addr) (s s₃ s':Shared) (L' t:Addr) (tok:Tok):Prop where
 kp:Kp W.T s.heap s₃.heap
 gi:GI W s₃
 gens:∀ (i:Nat) (x:GenState),s.gens[i]? =some x->s'.gens[i]? =some x
 bare:AllBare s'.gens
 os:s'.os=s.os
 dom:∀ b,s₃.heap.get? b=none->s.heap.get? b=none
 new:s.heap.get? L'=none
 fr:∃ o,s₃.heap.get? L'=some o/\∀ vs,o.data≠ .fields vs
 fly:Heap.FlyingW (hideAll s₃.heap [L',L]) outer e (.type "ValueError") (.ref t) s'.heap
 tup:s'.heap.TupAt t [.str (bM msg) tok]
 up:s₃.heap.UpToSlots s'.heap
theorem rQ {k a fd body names ix} {L:Addr} {envL:Env} {msg:List Nat} (F:jL W a fd body) (hfc:fd.scope.names=fc.names) (hck:iT fc=true) (hix:b5 fc names ix=true) (hlam:∀ t,fc.lam=some t->fd.code= .ref t.1/\fd.qualname++Str.ofString ".<locals>."++Str.ofString "<lambda>"=t.2.2) {μ ν args vs svs} (hbind:∀ (A:Around) (E:Value->Shared->Prop) (Q:List (Str×Value)->Shared->Prop),Q (names.zip vs) s->wpAny W.M A (bindArgs fd args) Q E s) (hlen:vs.length=names.length) (hA:cf (k+1) A) (g:GI W s) (ex:Ex s μ) (hν:∀ b∈ν,b∈μ) (hnr:∀ b∈ν,∀ o,s.heap.get? b=some o->dq o) (hv:aS W s.heap μ ν vs svs) (h1:aY fc ix svs (bc fc)=some st)
  (hfo:A.frames=some [envL]) (hk:envL.scope.kind= .function) (hfL:envL.frame=some L) (hL:∃ o,s.heap.get? L=some o/\∀ vs,o.data≠ .fields vs)
  (hbody:∀ (A:Around) (env:Env) (κ:List Addr) (B:aN) (ω:List Addr) (s:Shared),cf k A->bD W fc env κ B ω st s->wpAny W.M A (execs body env) (λU U=>False) (Ge msg s) s):
  codeAny W.M A (.call (.ref a) args) (λr s'=>∃ e s₃ L' t tok,r= .error (.ref e)/\wH msg L [envL] e s s₃ s' L' t tok) s:=by
 refine jQ F hfc hck hix hlam hbind hlen hA g ex hν hnr hv h1 λenv κ' s₁ hfr hf x₁ g₁ hA₁=>?_
 refine wpAny_mono (hbody _ env κ' ⟨μ,ν⟩ _ s₁ hA₁ x₁) (λU U q=>q.elim) λev s₂ y=>?_
 obtain ⟨s₃,e,h',tok,g₃,rfl,hm,rfl⟩:=y
 have x₃:=x₁.gr g₃
 have g02:=g₁.trans (λb hb=> .inl hb) (bR.of_gr g₃)
 have kp:=g02.fresh hf
 have nL':s.heap.get? env.locals=none:=hf _ (lR _ (List.mem_singleton.mpr rfl))
 obtain ⟨oL,hoL,hdL⟩:=hL
 have hoL3:s₃.heap.get? L=some oL:=kp _ _ (g.notin hoL hdL) hoL
 obtain ⟨m3,cm3,xc⟩:=id x₃
 have hL':=aI xc.ns
 refine wpAny_leaves_madeW (base:=hideAll s₃.heap [env.locals,L]) (h:=s₃.heap) (outer:=[envL]) (L:=env.locals) (by show A.frames.map (env::·)=_;rw [hfo];rfl) hfr (λb o q=>of_hideAll _ q)
  ⟨by rw [xc.eo.kind];decide,⟨_,_,hfr,hideAll_none _ (.head _),hL'.choose_spec⟩,by rw [hk];decide,⟨L,oL,hfL,hideAll_none _ (.tail _ (.head _)),hoL3,hdL⟩,trivial⟩
  (cls:= .type "ValueError") (args:=[.str (bM msg) tok]) ⟨hm.keeps,hm.new,hm.there⟩ λh'' t q1 q2 q3 q4=>?_
 exact ⟨e,s₃,env.locals,t,tok,rfl,kp,x₃.gi,g02.gens,x₃.gi.bare,g02.os,g02.dom,nL',hL',q1,q2,(Heap.UpToSlots.of_keeps hm.keeps).trans q4⟩
end
theorem FM:isSubtype (.type ((Manifest.find? "ValueError").elim "type" λx=>x.metatype)) (.type "tuple")=pure false:=by
 rw [show ((Manifest.find? "ValueError").elim "type" λx=>x.metatype)="type" from by decide +kernel,isSubtype_type]
 kernel_rfl
section
variable {n:Nat} {fc fc':FC} {env:Env} {κ:List Addr} {B:aN} {ω:List Addr} {st:List SV} {s s':Shared} {m cm:Str->Option Value} {A:Around}
def CO (W:Wd) (Fr:Option (List Env)) (n:Nat) (fc:FC) (b:Stmt) (f:List SV->Option (List SV×Fl)):Prop:=
 ∀ (A:Around) (env:Env) (κ:List Addr) (B:aN) (ω:List Addr) (st:List SV) (s:Shared) (out:List SV×Fl),A.frames=Fr.map (env::·)->env.frame=some env.locals->cf n A->bD W fc env κ B ω st s->f st=some out->
  wpAny W.M A (exec b env) (bf W fc env κ B ω s out) (λU U=>False) s
theorem SX.f {Fr n b f} (h:SX W n fc b f):CO W Fr n fc b f:=λA env κ B ω st s out _ _=>h A env κ B ω st s out
theorem AG {Fr b bs f g} (hf:CO W Fr n fc b f) (hg:rG W Fr n fc bs g):rG W Fr n fc (b::bs) (aV f g):=by
 intro A env κ B ω st s out a1 a2 hA x h
 unfold aV at h
 cases e:f st with
 | none=>erw [e] at h;w_cond h
 | some o=>
  obtain ⟨st',fl⟩:=o
  erw [e] at h
  refine wpAny_execs_cons (wpAny_mono (hf A env κ B ω st s (st',fl) a1 a2 hA x e) (λfl' s₁ y=>?_) λU U q=>q)
  cases fl with
  | next=>
   obtain ⟨g1,rfl,ω',x',hω⟩:=y
   exact wpAny_mono (hg A env κ B ω' st' s₁ out a1 a2 hA x' h) (λfl2 s₂ z=>bf.step g1 hω z) λU U q=>q
  | brk=>
   w_cond h
   obtain ⟨g1,rfl,y2⟩:=y
   exact ⟨g1,rfl,y2⟩
  | ret sv=>
   w_cond h
   obtain ⟨g1,v,rfl,y2⟩:=y
   exact ⟨g1,v,rfl,y2⟩
theorem rI {Fr bs g} (is) (hg:rG W Fr n fc bs g):rG W Fr n fc bs (λst=>(dH is st).bind g):=by
 intro A env κ B ω st s out a1 a2 hA x h
 obtain ⟨st',h1,h2⟩:=(ah h:_)
 obtain ⟨ω',y,hω⟩:=x.frzs is h1
 exact wpAny_mono (hg A env κ B ω' st' s out a1 a2 hA y h2) (λfl s₁ z=>bf.step (bR.refl _ _ _ _) (λb hb=> .inl (hω b hb)) z) λU U q=>q
noncomputable def FG (fc fc':FC) (ix:List Nat) (il iw jf:Nat) (msg:List Nat) (fa:List SV->Option (List PV)) (fk:List SV->Option SV) (st:List SV):Option (List SV×Fl):=
 (fa st).bind λds=>(ve fk st).bind λkv=>(aY fc' ix (ds.map .d++[kv]) (bc fc')).bind λst'=>(dy (rd st' il)).bind λl=>(fG l).bind λlo=>if (decide (lo<0)&&isUn (cn st jf))=true then some (cF fc st iw (.d (.str msg)),.next) else none
where isUn:Option SV->Bool
 | some .u=>true
 | _=>false
theorem yu {o} (h:FG.isUn o=true):o=some .u:=by
 cases o with
 | none=>w_cond h
 | some v=>cases v <;> first | rfl | w_cond h
theorem Gp {y key nf yw yl:Str} {a:Addr} {fd:FuncData} {k1 k2} {els rest els2:List Stmt} {rst:Stmt} {xm:Str} {msg:List Nat} {p cpos kp xpos tp wp sp np scp apos hp tpos p1 p2 p3 q1 q2 q3 q4 q5:Pos} {e ek:Expr} {es:List Expr} {names ix fa fk} (k np' il iw jf:Nat)
  (hg:cG W fc y a) (F:jL W a fd (.If (.Compare (.Name yl p1) [.Lt] [.Constant (.int 0) k1 p2] p3) [.Raise (some (.Call (.Name "ValueError" q1) [.Constant (.str xm) k2 q2] [] q3)) none q4] els q5::rest)) (hfc:fd.scope.names=fc'.names) (hck:iT fc'=true) (hix:b5 fc' names ix=true) (hk:k+1<=n)
  (hbind:∀ (s:Shared) (pvs:List Value) (kv:Value),GI W s->pvs.length=np'->BindsTo s fd ⟨pvs,[(key,kv)]⟩ (names.zip (pvs++[kv]))) (hnp:np'+1=names.length)
  (ha:gb W n fc (e::es) fa) (hka:SE W n fc ek fk) (hlen:∀ st ds,fa st=some ds->ds.length=np')
  (hy:bv fc' yl il=true) (hb':iD W fc' "ValueError") (hl:(decide (xm=bM msg)&&decide (msg.length<=be))=true)
  (hb:iD W fc "ValueError") (hbs:iD W fc "str") (hw:eV fc yw iw=true) (hwl:dK fc iw=true) (hne:iw≠jf) (hf:eV fc nf jf=true) (hfl:dK fc jf=true) (hnd:(nf==("__debug__":Str))=false)
  (he:∀ env,starEach (e::es) env=(false,eval e env)::starEach es env:=by w_left)
  (hlam:∀ t,fc'.lam=some t->fd.code= .ref t.1/\fd.qualname++Str.ofString ".<locals>."++Str.ofString "<lambda>"=t.2.2:=by intro t h;w_cond h)
  (hs1:∀ env,swapsWith (.Call (.Name y p) (e::es) [⟨some key,ek,kp⟩] cpos) none xpos.line env=pure false:=by w_left)
  (hs2:∀ env,cx fc env->swapsWith (.Call (.Name "str" sp) [.Name nf np] [] scp) (some (.Name yw wp)) apos.line env=pure false:=by w_left):
  CO W (some []) n fc (.Try [.Expr (.Call (.Name y p) (e::es) [⟨some key,ek,kp⟩] cpos) xpos,rst] [.ExceptHandler (some (.Name "ValueError" tp)) (some nf) [.Assign [.Name yw wp] (.Call (.Name "str" sp) [.Name nf np] [] scp) apos] hp] els2 [] tpos) (FG fc fc' ix il iw jf msg fa fk):=by
 intro A env κ B ω st s out hfr hfm hA x h
 obtain ⟨ds,h1,h⟩:=ah h
 obtain ⟨kd,h2,h⟩:=ah h
 have h2':=s9 h2
 obtain ⟨st',h3,h⟩:=ah h
 obtain ⟨l,h4,h⟩:=ah h
 obtain ⟨lo,h5,h⟩:=ah h
 obtain ⟨h6,h⟩:=bI h
 obtain rfl:=sI h
 rw [Bool.and_eq_true,decide_eq_true_eq] at h6
 obtain ⟨hlo,hun⟩:=h6
 rw [bV] at hun
 have hun:=yu hun
 have h4:=c7 h4
 obtain rfl:=aJ h5
 obtain ⟨o,ho,hdo⟩:=F.obj
 obtain ⟨kf,f1,f2,_⟩:=j9 hf
 obtain ⟨zf,f3⟩:=oy (sv:= .u) hfl
 have hkf:kf= .local:=by
  rw [f1] at f3
  exact (Prod.mk.inj (sI f3)).2
 subst hkf
 have eo:cx fc env:=let ⟨_,_,q⟩:=x;q.eo
 have hfr:A.frames=some [env]:=hfr
 refine wpAny_Try_except (wpAny_mono (E:=λev s₂=>∃ s₁ e s₃ L' t tok,Gr W s s₁/\ev= .ref e/\wH msg env.locals [env] e s₁ s₃ s₂ L' t tok) (Q:=λU U=>False) ?_ (λU U q=>q.elim) λev s₂ w=>?_)
 ·-- the call
  refine wpAny_execs_cons (wpAny_Expr_any (wpAny_mono (Q:=λU U=>False) ?_ (λU U q=>q.elim) λU U q=>q) (by unfold interactive;erw [eo.kind];rfl) (hs1 env))
  refine wpAny_Call_Name_kw (fh hg.1 hg.2.2 hg.2.1 x ?_)
  refine callWith_def_kw (o:=o) hdo (evalArgs_kw2 (by rfl) (wpAny_mono (ha A env κ B ω st s ds cpos hA x h1) (λvs s₁ z=>?_) λU U q=>q.elim) (he env))
  have x₁:=x.gr z.2
  refine wpAny_evalAll_cons (wpAny_bind (wpAny_mono (hka A env κ B ω st s₁ kd hA x₁ h2'.1) (λkv s₂ w=>wpAny_bind (wpAny_standAt (wpAny_pure (wpAny_evalAll_nil ?_)))) λU U q=>q.elim))
  have x₂:=x₁.gr w.2
  have hl':vs.length=np':=z.1.length.trans (hlen st ds h1)
  refine ⟨x₂.gi.top _ _ ho,wpAny_call (codeAny_mono (rQ (k:=k) (L:=env.locals) (envL:=env) (msg:=msg) F hfc hck hix hlam (vs:=vs++[kv]) (μ:=aq B κ ω) (ν:=bw B ω) (hbind s₂ vs kv x₂.gi hl' W.M) (by rw [jt,hl'];exact hnp) (hA.le hk) x₂.gi x₂.ex x₂.νhid (let ⟨_,_,q⟩:=x₂;q.nc) ((aS.of_data (z.1.sub (bo _ w.2.kp)):aS W s₂.heap _ _ _ _).append (.cons w.1 .nil)) h3 hfr eo.kind hfm (let ⟨_,_,q⟩:=x₂;aI q.ns) λA env κ B ω s hA x=>qY hA x hb' hy h4 hlo hl) λr s' u=>?_)⟩
  obtain ⟨e',s₃,L',t,tok,rfl,T⟩:=u
  exact ⟨s₂,e',s₃,L',t,tok,z.2.trans w.2,rfl,T⟩
 ·-- it lands
  obtain ⟨s₁,e',s₃,L',t,tok,g1,rfl,T⟩:=w
  obtain ⟨m,cm,x₁⟩:=x.gr g1
  refine wpAny_looks_onW hfr hfm T.fly λh₁ hh u1=>?_
  refine wpAny_landsW hh λh₂ hf2 u2=>?_
  have up2:=(T.up.trans u1).trans u2
  have hV:=(T.tup.of_slots u1).of_slots u2
  have nsL:=x₁.ns
  obtain ⟨oL,hoL,hdL⟩:=aI nsL
  have hLT:env.locals∉W.T:=x₁.gi.notin hoL hdL
  have ns3:s₃.heap.Ns env.locals m:=nsL.at' λo e=>T.kp _ _ hLT e
  have back:∀ (sx:Shared) (mx:Str->Option Value),(hideAll s₃.heap [L',env.locals]).StaysIn sx.heap->(∃ o,sx.heap.get? L'=some o)->sx.heap.Ns env.locals mx->(∀ z,z≠nf->mx z=m z)->sx.gens=s₂.gens->sx.os=s₂.os->aR W fc env κ B ω st sx mx cm/\bR W κ ω s₁ sx:=λsx mx c1 c2 c3 c4 c5 c6=>by
   have kk:∀ b o,b∉[L',env.locals]->s₃.heap.get? b=some o->sx.heap.get? b=some o:=λb o nb e=>c1 _ _ (hideAll_get _ e nb)
   have hLx:=aI c3
   have gi':GI W sx:=T.gi.updF kk (c5 ▸ T.bare) λa ha=>by
    rcases aX ha with rfl | ha
    ·exact ⟨by
      cases q:W.G.get? a with
      | none=>rfl
      | some o=>have:=x₁.gi.top _ _ q;rw [T.new] at this;w_cond this,T.fr⟩
    ·rw [aE ha]
     exact ⟨x₁.gn _ (lR _ x₁.lω),aI ns3⟩
   refine x₁.land f1 hun (λb o nT nL e=>kk b o (λq=>?_) (T.kp b o nT e)) gi' c3 c4 (λi gg e=>c5 ▸ T.gens i gg e) (c6.trans T.os) λb e=>?_
   ·rcases aX q with rfl | q
    ·rw [T.new] at e;w_cond e
    ·exact nL (aE q)
   ·refine T.dom b ?_
    cases q:s₃.heap.get? b with
    | none=>rfl
    | some o=>
     by_cases h1:b=env.locals
     ·obtain ⟨oo,e2,_⟩:=hLx
      rw [h1,e2] at e;w_cond e
     ·by_cases h2:b=L'
      ·obtain ⟨oo,e2⟩:=c2
       rw [h2,e2] at e;w_cond e
      ·rw [kk b o (λw=>by rcases aX w with w | w;exact h2 w;exact h1 (aE w)) q] at e;w_cond e
  obtain ⟨oL',hoL',hdL'⟩:=T.fr
  obtain ⟨sl',eL'2⟩:=up2 _ _ hoL' hdL'
  obtain ⟨b1,b2,b3,b4⟩:=hf2
  obtain ⟨xa,_⟩:=back { s₂ with heap:=h₂ } m b1 ⟨_,eL'2⟩ (up2.ns ns3) (λU U=>rfl) rfl rfl
  have hte:=b4.at.there
  refine wpAny_handleBy_builtin_as (X:="ValueError") (T:="ValueError") (b:=true) PySem.F.excRaise_ValueError.isExc FM PySem.F.excCall_ValueError.sub (dD hb tb_g% (by decide) ⟨m,cm,xa⟩ ⟨rfl,hte,?_⟩)
  refine wpAny_setFlight_noneW b1 b3 b4.at λh₃ c1 c2 c3 c4=>?_
  have ns3':h₃.Ns env.locals m:=(up2.ns ns3).at' λo e=>by
   obtain ⟨o',e',hd'⟩:=aI (up2.ns ns3)
   rw [e] at e';w_cond e'
   exact c4 _ _ e hd'
  refine wpAny_storeName_local ((bz eo nf).trans f2) (s:={ s₂ with heap:=h₃ }) ns3' (λh₄ n4 sb4=>?_) (by rw [eo.kind];rfl)
  obtain ⟨oe,vs,T',oT,ts,e1,e2,e3,e4,e5⟩:=c3
  have hLe:env.locals≠e':=λq=>by
   obtain ⟨o',e',hd'⟩:=aI ns3'
   rw [q,e1] at e';w_cond e'
   exact hd' _ e3
  obtain ⟨ot,nt,t1,t2,t3⟩:=(hV.of_slots (.of_keeps λb o e=>(λq=>q) e):h₂.TupAt t _)
  have hLt:env.locals≠t:=λq=>by
   obtain ⟨o',es,ep,e',hd',hk',_⟩:=up2.ns ns3
   rw [q,t1] at e';w_cond e'
   rw [t3] at hd';w_cond hd'
  have t1':h₄.get? t=some ot:=(sb4.2 t (Ne.symm hLt)).trans (c4 _ _ t1 λvs q=>by rw [t3] at q;w_cond q)
  have eL'4:h₄.get? L'=some { oL' with slots:=sl' }:=(sb4.2 L' λq=>by rw [q] at T;exact absurd T.new (by rw [hoL];simp)).trans (c4 _ _ eL'2 hdL')
  have nLb:(hideAll s₃.heap [L',env.locals]).get? env.locals=none:=hideAll_none _ (.tail _ (.head _))
  obtain ⟨x5,g5⟩:=back { s₂ with heap:=h₄,toks:=s₂.toks+1 } _ (λb o e=>(sb4.2 b λq=>by rw [q,nLb] at e;w_cond e).trans (c1 b o e)) ⟨_,eL'4⟩ n4 (λz hz=>if_neg hz) rfl rfl
  have hu:A.units+2<cLine:=by have:=hA.units;w_fin
  refine wpAny_execs_cons (wpAny_Assign_Name (wpAny_Call_Name_kw (dD hbs (by decide +kernel:bootBuiltins "str"=some (.type "str")) (by decide) ⟨_,cm,x5⟩ (PyProof.Rows.callWith_type1 (wpAny_items_cons (wpAny_Name (wpAny_loadName_local eo.kind ((bz eo nf).trans f2) x5.ns (show (if nf=nf then some (Value.ref e') else m nf)=some (.ref e') from if_pos rfl) (wpAny_items_nil (P.str_of_exc_one (A:=A.mark (some (.ref e'))) PySem.F.excStr_ValueError hu (t0:=t) ⟨oe,vs,(sb4.2 e' (Ne.symm hLe)).trans e1,e2.1,e3,e2.2⟩ ⟨ot,nt,t1',t2,t3⟩ ?_))) hnd) rfl) rfl rfl))) (hs2 env eo))
  have hmsg:msg.length<=be:=by rw [Bool.and_eq_true,decide_eq_true_eq,decide_eq_true_eq] at hl;exact hl.2
  refine wpAny_mono (cu (sv:= .d (.str msg)) hw x5 (Data.str msg tok hmsg) (λf e=>by w_cond e) λd a e=>by w_cond e) (λU s₆ w=>?_) λU U q=>q.elim
  obtain ⟨⟨m6,cm6,x6⟩,g6⟩:=w
  refine wpAny_execs_nil (wpAny_nameGoes_keeps ((bz eo nf).trans f2) x6.ns (by rw [eo.kind];rfl) λh₇ v7 n7 sb7=>?_)
  have hun6:(cF fc st iw (.d (.str msg)))[jf]? =some .u:=by
   obtain ⟨zw,qw⟩:=oy (sv:= .u) hwl
   rw [ty qw,List.getElem?_set_ne hne]
   exact hun
  have kp7:∀ b o,b≠env.locals->s₆.heap.get? b=some o->h₇.get? b=some o:=λb o nb e=>(sb7.2 b nb).trans e
  have gi7:GI W { s₆ with heap:=h₇,toks:=s₆.toks+1 }:=yS x6 sb7
  obtain ⟨x7,g7⟩:=x6.land (s':={ s₆ with heap:=h₇,toks:=s₆.toks+1 }) f1 hun6 (λb o U nL e=>kp7 b o nL e) gi7 n7 (λz hz=>if_neg hz) (λU U e=>e) rfl (j5 sb7 (let ⟨o,e,_⟩:=aI n7;⟨o,e⟩))
  exact bf.of_gr g1 (bf.step g5 (λb hb=> .inl hb) (bf.step g6 (λb hb=> .inl hb) (bf.of_inv rfl g7 ⟨_,cm6,x7⟩ λb hb=> .inl hb)))
def mS (W:Wd) (k:Nat) (a:Addr) (ba:List PV->PV->Option Nat):Prop:=
 ∀ (A:Around) (s:Shared) (μ ν:List Addr) (L:Addr) (xv:Value) (xs:List PV) (dx:PV) (kk:Nat) (us:List Value) (ep:Nat),cf k A->GI W s->Ex s μ->(∀ b∈ν,b∈μ)->(∀ b∈ν,∀ o,s.heap.get? b=some o->dq o)->
  Data W (fz W s.heap μ) (.ref L) (.list xs)->Data W (fz W s.heap μ) xv dx->W.G.get? L=none->s.heap.get? L=some (cj us.toArray ep)->ba xs dx=some kk->
  wpAny W.M A (call (.ref a) [.ref L,xv]) (λv s'=>(∃ ep',s'.heap.get? L=some (cj (us.take kk++xv::us.drop kk).toArray ep'))/\eX W [L] [] s s') (λU U=>False) s
theorem qq {a:Addr} {fd:FuncData} {stmt1:Stmt} {ya yl yx:Str} {pa apos pl px cpos ipos:Pos} {names:List Str} {ix:List Nat} {f1:List SV->Option (List SV×Fl)} {ia il ixx:Nat} {dvs:List Value} {dsv:List SV} {ba:List PV->PV->Option Nat} (k:Nat)
  (F:jL W a fd [stmt1,.Expr (.Call (.Attribute (.Name ya pa) "insert" apos) [.Name yl pl,.Name yx px] [] cpos) ipos]) (hfc:fd.scope.names=fc'.names) (hck:iT fc'=true) (hix:b5 fc' names ix=true) (hb:SX W k fc' stmt1 f1)
  (ha:bv fc' ya ia=true) (hl:bv fc' yl il=true) (hx:bv fc' yx ixx=true) (hline:(apos.endLine==cpos.line)=true)
  (hbind:∀ (s:Shared) (pvs:List Value),GI W s->pvs.length=2->BindsTo s fd ⟨pvs,[]⟩ (names.zip (pvs++dvs))) (hnp:2 + dvs.length=names.length) (hd:∀ (h:Heap) (μ ν:List Addr),aS W h μ ν dvs dsv)
  (hplace:∀ (xs:List PV) (dx:PV) (kk:Nat) (L xv:Value),ba xs dx=some kk->kk<=xs.length/\xs.length<be/\∃ st st1,aY fc' ix (.ptr L (.list xs):: .ptr xv dx::dsv) (bc fc')=some st/\f1 st=some (st1,.next)/\rd st1 ia=some (.ptr L (.list xs))/\rd st1 il=some (.d (.int kk))/\rd st1 ixx=some (.ptr xv dx))
  (hlam:∀ t,fc'.lam=some t->fd.code= .ref t.1/\fd.qualname++Str.ofString ".<locals>."++Str.ofString "<lambda>"=t.2.2:=by intro t h;w_cond h):mS W (k+1) a ba:=by
 intro A s μ ν L xv xs dx kk us ep hA g ex hν hnr dL dX hG e0 h2
 obtain ⟨q1,q2,st0,st1,e1,e2,r1,r2,r3⟩:=hplace xs dx kk (.ref L) xv h2
 have pL:dm W s.heap μ ν (.ref L) (.ptr (.ref L) (.list xs)):=⟨rfl,dL⟩
 have pX:dm W s.heap μ ν xv (.ptr xv dx):=⟨rfl,dX⟩
 refine wpAny_call (codeAny_mono (pQ (k:=k) F hfc hck hix hb hlam ha hl hx hline (vs:= .ref L::xv::dvs) (hbind s [.ref L,xv] g rfl W.M) (by show dvs.length+2=_;w_fin) hA g ex hν hnr (.cons pL (.cons pX (hd _ _ _))) e1 e2 r1 r2 r3 q1 q2 e0 hG) λr s₂ w=>?_)
 obtain ⟨rfl,w⟩:=w
 exact w
theorem uq {y ya yt:Str} {a o fd k ba} {p pa pt cpos pos:Pos} {xka xkt:Str×NameKind} {ia it:Nat} {La Lt:Addr} {As Ts:List PV} {kk:Nat} (hg:cG W fc y a) (ho:W.G.get? a=some o) (hd:o.data= .func fd) (I:mS W k a ba) (hk:k<=n) (hA:cf n A) (x:aR W fc env κ B ω st s m cm)
  (hya:bv fc ya ia=true) (na:fc.names[ia]? =some xka) (va:bp m cm xka=some (.ref La)) (hyt:bv fc yt it=true) (nt:fc.names[it]? =some xkt) (vt:bp m cm xkt=some (.ref Lt))
  (ca:aB W s.heap (fz W s.heap (aq B κ ω)) La (.list As)) (ct:aB W s.heap (fz W s.heap (aq B κ ω)) Lt (.list Ts)) (haω:La∈ω) (haL:La≠env.locals) (hpl:ba As (.list Ts)=some kk)
  (hno:∀ (j:Nat) (d:PV) (xk:Str×NameKind),st[j]? =some (.own d)->fc.names[j]? =some xk->bp m cm xk≠some (.ref La))
  (he:∀ env,starEach [.Name ya pa,.Name yt pt] env=(false,eval (.Name ya pa) env)::starEach [.Name yt pt] env:=by w_left) (he2:∀ env,starEach [.Name yt pt] env=(false,eval (.Name yt pt) env)::starEach [] env:=by w_left)
  (hs:∀ env,swapsWith (.Call (.Name y p) [.Name ya pa,.Name yt pt] [] cpos) none pos.line env=pure false:=by w_left):
  wpAny W.M A (exec (.Expr (.Call (.Name y p) [.Name ya pa,.Name yt pt] [] cpos) pos) env) (λfl s'=>fl= .next/\(∃ (us:List Value) (ep ep':Nat),s.heap.get? La=some (cj us.toArray ep)/\s'.heap.get? La=some (cj (us.take kk++ .ref Lt::us.drop kk).toArray ep'))/\eX W [La] [] s s'/\aR W fc env κ B ω st s' m cm/\bR W κ ω s s') (λU U=>False) s:=by
 have hL1:La∈aq B κ ω:=lR _ (lR _ haω)
 have hT:∀ {L ds},aB W s.heap (fz W s.heap (aq B κ ω)) L ds->L∉W.T:=λc=>by obtain ⟨o',e',hd'⟩:=c.ex;exact x.gi.notin e' hd'
 obtain ⟨us,ep,e0⟩:∃ (us:List Value) (ep:Nat),s.heap.get? La=some (cj us.toArray ep):=by
  have c:=ca
  cases c using aB.listE with | mk _ _ e _ _=>exact ⟨_,_,e⟩
 have sub:∀ b∈wo Lt (wo La (aq B κ ω)),b∈aq B κ ω:=λb hb=>ej b (ej b hb)
 have sub':∀ b∈wo Lt (wo La (bw B ω)),b∈bw B ω:=λb hb=>ej b (ej b hb)
 have dat:∀ {L ds},aB W s.heap (fz W s.heap (aq B κ ω)) L ds->L∉wo Lt (wo La (aq B κ ω))->Data W (fz W s.heap (wo Lt (wo La (aq B κ ω)))) (.ref L) ds:=λc hn=>(c.move (λU e=>e) (aG sub)).freeze λo' e'=>bx.mpr ⟨e',hT c,hn⟩
 have dA:=dat ca λq=>nZ (ej _ q)
 have dT:=dat ct nZ
 have x1:bD W fc env κ B ω st s:=⟨m,cm,x⟩
 refine wpAny_Expr_any (wpAny_mono (Q:=λU s'=>(∃ ep',s'.heap.get? La=some (cj (us.take kk++ .ref Lt::us.drop kk).toArray ep'))/\eX W [La] [] s s') (wpAny_Call_Name_kw (fh hg.1 hg.2.2 hg.2.1 x1 ?_)) (λv s₁ w=>?_) λU U q=>q) (by unfold interactive;erw [x.eo.kind];rfl) (hs env)
 ·refine callWith_def (o:=o) hd ?_ (he env)
  refine wpAny_items_cons ((jB x hya na va).2 _ _ _ _ _ (wpAny_items_cons ((jB x hyt nt vt).2 _ _ _ _ _ (wpAny_items_nil ?_)) (he2 env))) (he env)
  exact ⟨x.gi.top _ _ ho,I A s _ (wo Lt (wo La (bw B ω))) La (.ref Lt) As (.list Ts) kk us ep (hA.le hk) x.gi (x1.ex.mono sub) (λb hb=>Ak b (Ak b (x1.νhid b (sub' b hb)) λq=>nZ (q ▸ ej b hb)) λq=>nZ (q ▸ hb)) (λb hb=>x.nc b (sub' b hb)) dA dT (x.gn La (lR _ haω)) e0 hpl⟩
 ·obtain ⟨⟨ep',e'⟩,g⟩:=w
  obtain ⟨x2,gs⟩:=x.grL g haω haL hno ⟨_,e',λvs q=>by w_cond q⟩
  exact ⟨rfl,⟨us,ep,ep',e0,e'⟩,g,x2,gs⟩
theorem tW {h h':Heap} {μ μ':List Addr} {L Lt xs kk Ts ep ep'} {us:List Value} (hc:aB W h (fz W h μ) L (.list xs)) (k:bF (fz W h μ) (fz W h' μ')) (dT:Data W (fz W h' μ') (.ref Lt) Ts) (hl:xs.length<be) (e:h.get? L=some (cj us.toArray ep)) (e':h'.get? L=some (cj (us.take kk++ .ref Lt::us.drop kk).toArray ep')):aB W h' (fz W h' μ') L (.list (gX xs kk Ts)):=by
 cases hc using aB.listE with | mk vs0 ep0 e0 n0 b0=>
 obtain rfl:=eM e e0
 have b1:=b0.sub k
 have hb0:=b0.length
 exact .list e' (by simp only [jt,List.length_cons,List.length_take,List.length_drop];w_fin) ((b1.take kk).append (.cons dT (b1.drop kk)))
noncomputable def I8 (ia ib it:Nat) (st:List SV):List SV:=fV (fV (fV st ia .u) ib .u) it .u
theorem FH {ia ib it st}:I8 ia ib it st=((st.set ia .u).set ib .u).set it .u:=by simp only [I8,b7]
noncomputable def K1 (ia ib it:Nat) (p1 p2:List PV->PV->Option Nat) (fe:List SV->Option SV) (st:List SV):Option (List SV):=
 (mQ (cn st ia)).bind λAs=>(mQ (cn st ib)).bind λBs=>(mQ (cn st it)).bind λTs=>(de fe (I8 ia ib it st)).bind λd=>(p1 As (.list Ts)).bind λj=>(p2 Bs (.list Ts)).bind λk=>
  if (Nat.blt As.length 1000&&Nat.blt Bs.length 1000&&Nat.blt Ts.length 1000&&!(Nat.beq ia ib)&&!(Nat.beq ia it)&&!(Nat.beq ib it))=true then
   some (fV (fV (fV (I8 ia ib it st) it (.d (.list (Ts++[d])))) ia (.own (.list (gX As j (.list (Ts++[d])))))) ib (.own (.list (gX Bs k (.list (Ts++[d])))))) else none
theorem DP {y1 y2 ya yb yt:Str} {a1 a2 o1 o2 fd1 fd2 k1 k2 pl1 pl2} {p1 p2 pa pb pt1 pt2 pt3 c1 c2 c3 s1 s2 s3 ap:Pos} {ia ib it:Nat} {e fe bs g}
  (hg1:cG W fc y1 a1) (ho1:W.G.get? a1=some o1) (hd1:o1.data= .func fd1) (I1:mS W k1 a1 pl1) (hk1:k1<=n) (hg2:cG W fc y2 a2) (ho2:W.G.get? a2=some o2) (hd2:o2.data= .func fd2) (I2:mS W k2 a2 pl2) (hk2:k2<=n)
  (hya:bv fc ya ia=true) (hyb:bv fc yb ib=true) (hyt:bv fc yt it=true) (hv:SE W n fc e fe) (hrest:SS W n fc bs g)
  (he1:∀ env,starEach [.Name ya pa,.Name yt pt1] env=(false,eval (.Name ya pa) env)::starEach [.Name yt pt1] env:=by w_left) (he2:∀ env,starEach [.Name yt pt1] env=(false,eval (.Name yt pt1) env)::starEach [] env:=by w_left)
  (he3:∀ env,starEach [.Name yb pb,.Name yt pt2] env=(false,eval (.Name yb pb) env)::starEach [.Name yt pt2] env:=by w_left) (he4:∀ env,starEach [.Name yt pt2] env=(false,eval (.Name yt pt2) env)::starEach [] env:=by w_left)
  (hs1:∀ env,swapsWith (.Call (.Name y1 p1) [.Name ya pa,.Name yt pt1] [] c1) none s1.line env=pure false:=by w_left) (hs2:∀ env,swapsWith (.Call (.Name y2 p2) [.Name yb pb,.Name yt pt2] [] c2) none s2.line env=pure false:=by w_left)
  (hbase:∀ env,attributeBase (.Name yt pt3) "append" env (eval (.Name yt pt3) env)=eval (.Name yt pt3) env:=by w_left) (hfew:∀ env,((backTo c3 (starEach [e] env)).all (λx=>!x.1)&&(backToKw c3 (keywordEach [] env)).all (λx=>x.1.isSome)&&decide (([e]:List Expr).length + ([]:List Keyword).length + (if ([]:List Keyword).isEmpty then 0 else 1)<30))=true:=by w_left) (hline:(ap.endLine==c3.line)=true:=by rfl) (htrees:∀ env,backTo c3 (starEach [e] env)=[(false,eval e env)]:=by w_left) (hs3:∀ env,swapsWith (.Call (.Attribute (.Name yt pt3) "append" ap) [e] [] c3) none s3.line env=pure false:=by w_left):
  SS W n fc (.Expr (.Call (.Name y1 p1) [.Name ya pa,.Name yt pt1] [] c1) s1:: .Expr (.Call (.Name y2 p2) [.Name yb pb,.Name yt pt2] [] c2) s2:: .Expr (.Call (.Attribute (.Name yt pt3) "append" ap) [e] [] c3) s3::bs) (λst=>(K1 ia ib it pl1 pl2 fe st).bind g):=by
 intro A env κ B ω st s out hA x h
 obtain ⟨st9,h,hrst⟩:=ah h
 obtain ⟨As,ra,h⟩:=ah h
 obtain ⟨Bs,rb,h⟩:=ah h
 obtain ⟨Ts,rt,h⟩:=ah h
 obtain ⟨d5,h5,h⟩:=ah h
 obtain ⟨j,hj,h⟩:=ah h
 obtain ⟨k,hk,h⟩:=ah h
 obtain ⟨hc,h⟩:=bI h
 obtain rfl:=sI h
 simp only [Bool.and_eq_true,Bool.not_eq_true',Nat.blt_eq] at hc
 obtain ⟨⟨⟨⟨⟨lA,lB⟩,lT⟩,wl⟩,nat⟩,nbt⟩:=hc
 have wl:=Nat.ne_of_beq_eq_false wl
 have nat:=Nat.ne_of_beq_eq_false nat
 have nbt:=Nat.ne_of_beq_eq_false nbt
 rw [bV] at ra rb rt
 simp only [b7] at hrst
 rw [FH] at hrst h5
 have ra:=fU ra
 have rb:=fU rb
 have rt:=fU rt
 obtain ⟨m,cm,xc⟩:=x
 obtain ⟨xa,La,na,ka,va,ca,_⟩:=dE xc hya ra
 obtain ⟨xb,Lb,nb,kb,vb,cb,_⟩:=dE xc hyb rb
 obtain ⟨xt,Lt,nt,kt,vt,ct,_⟩:=dE xc hyt rt
 have aω:=xc.oω ia _ xa La ra na va
 have bω:=xc.oω ib _ xb Lb rb nb vb
 have tω:=xc.oω it _ xt Lt rt nt vt
 have aL:=xc.noL ia _ xa La ra na va
 have bL:=xc.noL ib _ xb Lb rb nb vb
 have tL:=xc.noL it _ xt Lt rt nt vt
 have Lab:La≠Lb:=λq=>wl (xc.apart ia ib _ _ xa xb La ra rb na nb va (q ▸ vb))
 have Lat:La≠Lt:=λq=>nat (xc.apart ia it _ _ xa xt La ra rt na nt va (q ▸ vt))
 have Lbt:Lb≠Lt:=λq=>nbt (xc.apart ib it _ _ xb xt Lb rb rt nb nt vb (q ▸ vt))
 have x0:=((xc.forget ia).forget ib).forget it
 have sets:∀ {j:Nat} {d:PV},(((st.set ia .u).set ib .u).set it .u)[j]? =some (.own d)->j≠it/\j≠ib/\j≠ia/\st[j]? =some (.own d):=λh=>by
  rcases aU h with ⟨_,q⟩ | ⟨n1,h⟩
  ·w_cond q
  ·rcases aU h with ⟨_,q⟩ | ⟨n2,h⟩
   ·w_cond q
   ·rcases aU h with ⟨_,q⟩ | ⟨n3,h⟩
    ·w_cond q
    ·exact ⟨n1,n2,n3,h⟩
 have nA:∀ (j:Nat) (d:PV) (xk:Str×NameKind),(((st.set ia .u).set ib .u).set it .u)[j]? =some (.own d)->fc.names[j]? =some xk->bp m cm xk≠some (.ref La):=λj d xk h1 h2 h3=>by
  obtain ⟨q1,q2,q3,q4⟩:=sets h1
  exact q3 (xc.apart j ia _ _ xk xa La q4 ra h2 na h3 va)
 have nB:∀ (j:Nat) (d:PV) (xk:Str×NameKind),(((st.set ia .u).set ib .u).set it .u)[j]? =some (.own d)->fc.names[j]? =some xk->bp m cm xk≠some (.ref Lb):=λj d xk h1 h2 h3=>by
  obtain ⟨q1,q2,q3,q4⟩:=sets h1
  exact q2 (xc.apart j ib _ _ xk xb Lb q4 rb h2 nb h3 vb)
 have nT:∀ (j:Nat) (d:PV) (xk:Str×NameKind),(((st.set ia .u).set ib .u).set it .u)[j]? =some (.own d)->fc.names[j]? =some xk->bp m cm xk≠some (.ref Lt):=λj d xk h1 h2 h3=>by
  obtain ⟨q1,q2,q3,q4⟩:=sets h1
  exact q1 (xc.apart j it _ _ xk xt Lt q4 rt h2 nt h3 vt)
 have inh:∀ {b},b∈ω->b∈aq B κ ω:=λh=>lR _ (lR _ h)
 have sub1:∀ {L:Addr} {s s':Shared},L∈ω->eX W [L] [] s s'->bF (fz W s.heap (aq B κ ω)) (fz W s'.heap (aq B κ ω)):=λhL k=>ax λb o n1 n2 e=>⟨n2,k.kp b o (λq=>(aw q).elim n1 λq=>n2 (aE q ▸ inh hL)) e⟩
 have mvc:∀ {L L':Addr} {ds} {s s':Shared},GI W s->L'∈ω->L≠L'->eX W [L'] [] s s'->aB W s.heap (fz W s.heap (aq B κ ω)) L ds->aB W s'.heap (fz W s'.heap (aq B κ ω)) L ds:=λg hL' hne k c=>c.move (λo' e'=>by
  obtain ⟨o'',e'',hd''⟩:=c.ex
  rw [e'] at e'';w_cond e''
  exact k.kp _ _ (λq=>(aw q).elim (g.notin e' hd'') λq=>hne (aE q)) e') (sub1 hL' k)
 refine wpAny_execs_cons (wpAny_mono (uq (it:=it) hg1 ho1 hd1 I1 hk1 hA x0 hya na va hyt nt vt ca ct aω aL hj nA he1 he2 hs1) (λfl s₁ w=>?_) λU U q=>q)
 obtain ⟨rfl,⟨ua,ea,ea',qa,qa'⟩,g1,x1,k1'⟩:=w
 have cb1:=mvc xc.gi aω (Ne.symm Lab) g1 cb
 have ct1:=mvc xc.gi aω (Ne.symm Lat) g1 ct
 refine wpAny_execs_cons (wpAny_mono (uq (it:=it) hg2 ho2 hd2 I2 hk2 hA x1 hyb nb vb hyt nt vt cb1 ct1 bω bL hk nB he3 he4 hs2) (λfl s₂ w=>?_) λU U q=>q)
 obtain ⟨rfl,⟨ub,eb,eb',qb,qb'⟩,g2,x2,k2'⟩:=w
 have c₂:=mvc x1.gi bω (Ne.symm Lbt) g2 ct1
 have lo:∀ {us:List Value} {ep:Nat} {vs:Array Value},(cj us.toArray ep).data≠ .fields vs:=λq=>by w_cond q
 have qa2:s₂.heap.get? La=_:=g2.kp _ _ (λq=>(aw q).elim (x1.gi.notin qa' λU=>lo) λq=>Lab (aE q)) qa'
 cases c₂ using aB.listE with | mk vt' ept et nlt bt=>
 have e5:=hv A env κ B ω _ s₂ _ hA ⟨m,cm,x2⟩ (aT h5)
 refine wpAny_execs_cons (wpAny_Expr_any (wpAny_Call_append (hbase env) (hfew env) hline (htrees env) ((jB x2 hyt nt vt).2 _ _ _ _ _ ⟨Lt,_,rfl,⟨_,_,et,rfl,rfl,rfl⟩,wpAny_mono e5 (λv5 s₃ z=>?_) λU U q=>q⟩)) (by unfold interactive;erw [xc.eo.kind];rfl) (hs3 env))
 have x3:=x2.gr z.2
 have et3:=z.2.kp _ _ (x2.gi.notin et λU=>lo) et
 have qa3:=z.2.kp _ _ (x2.gi.notin qa2 λU=>lo) qa2
 have qb3:=z.2.kp _ _ (x2.gi.notin qb' λU=>lo) qb'
 refine call_meets slot_list_append ⟨_,et3,rfl⟩ entry_list_append (args_list_append _ _) (PySem.list_append Lt _ _ v5 (by rw [List.size_toArray];exact bj nlt)) ⟨et3,?_⟩
 obtain ⟨ep',e'⟩:=fY (us:=vt'++[v5]) et3 (λx_1=>x_1.push v5) (by simp)
 have hsb:Heap.SameBut Lt s₃.heap (s₃.heap.update Lt (Obj.mapSeq λx_1=>x_1.push v5)):=Heap.SameBut.update ..
 generalize hh4:s₃.heap.update Lt (Obj.mapSeq λx_1=>x_1.push v5)=h₄ at e' hsb
 have gT:eX W [Lt] [] s₃ { s₃ with heap:=h₄ }:=⟨λb o nb e=>(hsb.2 b λq=>nb (by rw [q];exact lR _ (List.mem_singleton.mpr rfl))).trans e,λg=>g.upd (tk:=s₃.toks) et3 (λU=>lo) (x3.gn Lt (lR _ tω)) hsb,λU U U e=>e,rfl,λb nb e=>(hsb.2 b λq=>nb (by rw [q];exact List.mem_singleton.mpr rfl)).symm.trans e⟩
 obtain ⟨x4,k4⟩:=x3.grL gT tω tL nT ⟨_,e',λU=>lo⟩
 have s34:=sub1 tω gT
 have s23:bF (fz W s₂.heap (aq B κ ω)) (fz W s₃.heap (aq B κ ω)):=bo _ z.2.kp
 have s04:bF (fz W s.heap (aq B κ ω)) (fz W h₄ (aq B κ ω)):=(sub1 aω g1).trans ((sub1 bω g2).trans (s23.trans s34))
 have bt4:=(bt.sub s23).sub s34
 have dv:Data W (fz W h₄ (aq B κ ω)) v5 d5:=Data.sub s34 z.1
 have cT:aB W h₄ (fz W h₄ (aq B κ ω)) Lt (.list (Ts++[d5])):= .list e' (by rw [jt,bt.length];show Ts.length+1<=1048576;w_fin) (bt4.snoc dv)
 have xT:=x4.reown nt kt vt tω tL nT cT
 have hlen:it<(((st.set ia .u).set ib .u).set it .u).length:=by
  have:it<st.length:=(List.getElem?_eq_some_iff.mp rt).1
  simpa using this
 have x5:=xT.freezeA (List.getElem?_set_self hlen) nt kt vt cT
 rw [List.set_set] at x5
 have anti:∀ b∈aq B κ (ω.filter (· != Lt)),b∈aq B κ ω:=λb hb=>by
  simp only [aq,List.mem_append] at hb ⊢
  exact hb.imp id λh=>h.imp id λh=>(List.mem_filter.mp h).1
 have dT:Data W (fz W h₄ (aq B κ (ω.filter (· != Lt)))) (.ref Lt) (.list (Ts++[d5])):=by
  have hl5:it<((((st.set ia .u).set ib .u).set it .u)).length:=hlen
  rcases x5.vars it _ (List.getElem?_set_self hl5) with q | ⟨xk,v,q1,q2,q3,q4⟩
  ·w_cond q
  ·rw [nt] at q1
   obtain rfl:=sI q1
   rw [vt] at q3
   obtain rfl:=sI q3
   exact q4
 have inω:∀ {L:Addr},L∈ω->L≠Lt->L∈ω.filter (· != Lt):=λh n=>List.mem_filter.mpr ⟨h,by simpa using n⟩
 have s04':=s04.trans (aG anti)
 have qa4:h₄.get? La=_:=(hsb.2 La Lat).trans qa3
 have qb4:h₄.get? Lb=_:=(hsb.2 Lb Lbt).trans qb3
 have cA:=tW ca s04' dT (Nat.lt_trans lA (by decide)) qa qa4
 obtain ⟨ep2,qb0⟩:∃ ep,s.heap.get? Lb=some (cj ub.toArray ep):=by
  have c:=cb
  cases c using aB.listE with | mk vb0 epb e0 _ _=>
  have:=g1.kp _ _ (λq=>(aw q).elim (xc.gi.notin e0 λU=>lo) λq=>Lab (aE q).symm) e0
  obtain rfl:=eM qb this
  exact ⟨_,e0⟩
 have cB:=tW cb s04' dT (Nat.lt_trans lB (by decide)) qb0 qb4
 have sets5:∀ {j:Nat} {d:PV} {v:PV},((((st.set ia .u).set ib .u).set it .u).set it (.d v))[j]? =some (.own d)->(((st.set ia .u).set ib .u).set it .u)[j]? =some (.own d):=λh=>by
  rcases aU h with ⟨_,q⟩ | ⟨_,h⟩
  ·w_cond q
  ·exact h
 have x6:=x5.reown na ka va (inω aω Lat) aL (λj d xk h1=>nA j d xk (sets5 h1)) cA
 have x7:=x6.reown nb kb vb (inω bω Lbt) bL (λj d xk h1 h2 h3=>by
  rcases aU h1 with ⟨rfl,_⟩ | ⟨_,h1⟩
  ·rw [na] at h2
   obtain rfl:=sI h2
   rw [va] at h3
   exact Lab (Value.ref.inj (sI h3))
  ·exact nB j d xk (sets5 h1) h2 h3) cB
 have kk:=k1'.trans (λb hb=> .inl hb) (k2'.trans (λb hb=> .inl hb) ((bR.of_gr z.2).trans (λb hb=> .inl hb) k4))
 exact wpAny_mono (hrest A env κ B _ _ _ out hA ⟨m,cm,x7⟩ hrst) (λfl s₅ z=>bf.step kk (λb hb=> .inl (List.mem_filter.mp hb).1) z) λU U q=>q
end
section
variable {α:Type}
theorem qg (xs:List α) (a):∀ k:Nat,(List.range k).filterMap (λi=>xs[a + i]?)=(xs.drop a).take k:=by
 intro zv
 induction zv with
 | zero=>
  simp
 | succ k ih=>
  rw [List.range_succ,List.filterMap_append,ih,List.take_add_one,List.getElem?_drop];simp [List.filterMap_cons];cases xs[a + k]? <;> rfl
theorem Lm (a n:Nat):max 0 (min (a:Int) n)=((min a n:Nat):Int):=by
 rcases Nat.le_total a n with h | h
 ·rw [Nat.min_eq_left h,Int.min_eq_left (Int.ofNat_le.mpr h)];exact Int.max_eq_right (Int.natCast_nonneg _)
 ·rw [Nat.min_eq_right h,Int.min_eq_right (Int.ofNat_le.mpr h)];exact Int.max_eq_right (Int.natCast_nonneg _)
theorem GZ (a n:Nat):max 0 (min (if (a:Int)<0 then (a:Int) + n else a) (n:Int))=((min a n:Nat):Int):=
 (congrArg (λz=>max 0 (min z (n:Int))) (if_neg (Int.not_lt.mpr (Int.natCast_nonneg a)))).trans (Lm a n)
theorem Ke {xs:List α} {lo hi st lo' hi' st'} (h:sliceBounds lo hi st xs.length=sliceBounds lo' hi' st' xs.length):ce xs lo hi st=ce xs lo' hi' st':=by
 unfold ce kL;rw [h]
theorem Kh (a b:Nat):((a:Int) - b+1 - 1) / 1=(a:Int) - b:=(Int.ediv_one _).trans (Int.add_sub_cancel _ 1)
theorem Fv (a b:Nat):sliceRange a b 1=(List.range (b - a)).map (a + ·):=by
 unfold sliceRange
 have h:((if (1:Int) > 0 then (if (a:Int)<b then ((b:Int) - a+1 - 1) / 1 else 0) else (if (a:Int) > b then ((a:Int) - b - 1 - 1) / (-1) else 0)):Int).toNat=b - a:=by
  rw [if_pos (by decide),Kh]
  split
  ·exact Int.toNat_sub b a
  ·exact (Nat.sub_eq_zero_of_le (Int.ofNat_le.mp (Int.not_lt.mp (by assumption)))).symm
 exact (congrArg (λz=>(List.range z).map λk:Nat=>((a:Int)+1 * (k:Int)).toNat) h).trans (congrArg (List.map · _) (funext λk=>congrArg Int.toNat (congrArg _ (Int.one_mul k))))
theorem Lo (a b n:Nat):sliceBounds (some (a:Int)) (some (b:Int)) none n=(((min a n:Nat):Int),((min b n:Nat):Int),1):=
 congr (congrArg Prod.mk (GZ a n)) (congrArg (Prod.mk · 1) (GZ b n))
theorem iA (xs:List α) (a b:Nat):ce xs (some (a:Int)) (some (b:Int)) none=(xs.drop a).take (b - a):=by
 unfold ce kL
 rw [Lo]
 rw [Fv,List.filterMap_map]
 refine (qg ..).trans ?_
 rcases Nat.le_total a xs.length with h | h
 ·rw [Nat.min_eq_left h]
  rcases Nat.le_total b xs.length with h' | h'
  ·rw [Nat.min_eq_left h']
  ·rw [Nat.min_eq_right h',List.take_of_length_le (by simp),List.take_of_length_le (by rw [List.length_drop];exact Nat.sub_le_sub_right h' _)]
 ·rw [Nat.min_eq_right h,List.drop_eq_nil_of_le h,List.drop_eq_nil_of_le (Nat.le_refl _)];simp
theorem Ln (n):((n:Nat):Int)=max 0 (min (if (n:Int)<0 then (n:Int) + n else n) (n:Int)):=((GZ n n).trans (congrArg Nat.cast (Nat.min_self n))).symm
theorem sZ (xs:List α) (a:Nat):ce xs (some (a:Int)) none none=xs.drop a:=by
 have h:ce xs (some (a:Int)) none none=ce xs (some (a:Int)) (some (xs.length:Int)) none:=Ke (congrArg (λz=>(_,z,_)) (Ln _))
 rw [h,iA]
 exact List.take_of_length_le (by simp)
theorem zX (xs:List α) (b:Nat):ce xs none (some (b:Int)) none=xs.take b:=by
 have h:ce xs none (some (b:Int)) none=ce xs (some ((0:Nat):Int)) (some (b:Int)) none:=by
  exact Ke (congrArg (λz=>(z,_,_)) ((GZ 0 _).trans (congrArg Nat.cast (Nat.zero_min _))).symm)
 rw [h,iA]
 rfl
theorem rc (xs:List α):ce xs none none (some 1)=xs:=by
 have h:ce xs none none (some 1)=ce xs (some ((0:Nat):Int)) none none:=by
  exact Ke (congrArg (λz=>(z,_,_)) ((GZ 0 _).trans (congrArg Nat.cast (Nat.zero_min _))).symm)
 rw [h,sZ]
 rfl
theorem Kg (n k:Nat):((n:Int) - 1 + -1 * k).toNat=n - 1 - k:=by
 rw [Int.neg_mul,Int.one_mul,<-Int.sub_eq_add_neg,Int.sub_sub]
 exact (Int.toNat_sub n (1 + k)).trans (Nat.sub_sub n 1 k).symm
theorem zY (xs:List α):ce xs none none (some (-1))=xs.reverse:=by
 have hb:sliceBounds none none (some (-1)) xs.length=((xs.length:Int) - 1,-1,-1):=by
  simp [sliceBounds]
 unfold ce kL
 erw [hb]
 have hs:sliceRange ((xs.length:Int) - 1) (-1) (-1)=(List.range xs.length).map λk=>xs.length - 1 - k:=by
  unfold sliceRange
  have h:((if (-1:Int) > 0 then (if ((xs.length:Int) - 1)< -1 then (-1 - ((xs.length:Int) - 1) + -1 - 1) / -1 else 0) else (if ((xs.length:Int) - 1) > -1 then (((xs.length:Int) - 1) - -1 - -1 - 1) / (- -1) else 0)):Int).toNat=xs.length:=by
   rw [if_neg (by decide),show (- -1:Int)=1 from rfl,Int.ediv_one]
   split <;> w_fin
  exact (congrArg (λz=>(List.range z).map λk:Nat=>((xs.length:Int) - 1 + -1 * (k:Int)).toNat) h).trans (congrArg (List.map · _) (funext (Kg _)))
 erw [hs,List.filterMap_map]
 have h2:(List.range xs.length).filterMap ((xs[·]?) ∘ λk=>xs.length - 1 - k)=(List.range xs.length).filterMap (λk=>xs.reverse[0 + k]?):=by
  have gen:∀ l:List Nat,(∀ k∈l,k<xs.length)->l.filterMap ((xs[·]?) ∘ λk=>xs.length - 1 - k)=l.filterMap (λk=>xs.reverse[0 + k]?):=by
   intro l
   induction l with
   | nil=>intro _;rfl
   | cons k l ih=>
    intro h
    have hk:=h k (by simp)
    rw [List.filterMap_cons,List.filterMap_cons,ih λk' hk'=>h k' (by simp [hk'])]
    simp only [Function.comp,Nat.zero_add,List.getElem?_reverse hk]
  exact gen _ λk hk=>List.mem_range.mp hk
 erw [h2,qg,List.drop_zero]
 exact List.take_of_length_le (by simp)
end
noncomputable def rS (d:Nat):Option Int->Option Nat
 | none=>some d
 | some (.ofNat n)=>some n
 | some (.negSucc _)=>none
noncomputable def Kf {α:Type} (xs:List α) (lo hi st:Option Int):List α:=match st with
 | none=>((rS 0 lo).bind λa=>(rS xs.length hi).map λb=>(xs.drop a).take (b - a)).getD (ce xs lo hi none)
 | some k=>ce xs lo hi (some k)
theorem mY {d i n} (h:rS d i=some n):(i=none/\n=d)∨i=some (n:Int):=by
 cases i with
 | none=>exact .inl ⟨rfl,(sI h).symm⟩
 | some k=>
  cases k with
  | ofNat m=>obtain rfl:=sI h;exact .inr rfl
  | negSucc m=>exact nS h
theorem sX {α:Type} (xs:List α) (lo hi st):Kf xs lo hi st=ce xs lo hi st:=by
 cases st with
 | some k=>rfl
 | none=>
  show ((rS 0 lo).bind λa=>(rS xs.length hi).map λb=>(xs.drop a).take (b - a)).getD (ce xs lo hi none)=_
  cases h1:rS 0 lo with
  | none=>rfl
  | some a=>
   cases h2:rS xs.length hi with
   | none=>rfl
   | some b=>
    show (xs.drop a).take (b - a)=_
    rcases mY h1 with ⟨rfl,rfl⟩ | rfl <;> rcases mY h2 with ⟨rfl,rfl⟩ | rfl
    ·rw [show ce xs none none none=xs from rc xs];exact List.take_of_length_le (Nat.le_refl _)
    ·exact (zX xs b).symm
    ·rw [sZ];exact List.take_of_length_le (by simp)
    ·exact (iA xs a b).symm
noncomputable def dh (d:PV) (lo hi st:Option Int):Option PV:=
 if st=some 0 then none else match d with
 | .list xs=>b9 (Kf xs lo hi st)
 | .str l=>ei (Kf l lo hi st)
 | _=>none
theorem sK:mn=dh:=by
 funext d lo hi st
 unfold mn dh
 simp only [sX]
 rfl
theorem bu {n:Nat} {fc:FC} {a l u stp p pos fa fl fu fs} (ha:SE W n fc a fa) (hl:SP W n fc l fl) (hu:SP W n fc u fu) (hs:SP W n fc stp fs):
  SE W n fc (.Subscript a (.Slice l u stp p) pos) (λst=>(pe fa st).bind λx=>(fl st).bind λlo=>(fu st).bind λhi=>(fs st).bind λsp=>(dh x lo hi sp).map .d):=by
 rw [<-sK]
 exact AB ha hl hu hs
noncomputable def uL:PV->PV->Option PV:=EX λa b=>if b.natAbs<1073741824∨a.natAbs<1073741824 then some (.int (a * b)) else none
theorem zt:EZ=uL:=by
 unfold EZ uL
 congr 1
 funext a b
 simp only [or_comm]
theorem iu:tj W (binaryOp .Mult) uL:=zt ▸ EU
theorem l6:∀ (st:List SV) (ds:List PV),(λ(_:List SV)=>some ([]:List PV)) st=some ds->ds.length=0:=λst ds h=>by w_cond h;rfl
theorem ey {f:List SV->Option SV} {g:List SV->Option (List PV)} {k:Nat} (hg:∀ st ds,g st=some ds->ds.length=k):∀ (st:List SV) (ds:List PV),(λst=>(de f st).bind λd=>(g st).map (d::·)) st=some ds->ds.length=k+1:=λst ds h=>by
 obtain ⟨d,_,h⟩:=ah h
 obtain ⟨r,h1,rfl⟩:=(aA h:_)
 rw [List.length_cons,hg st r h1]
noncomputable def IG (H:Wf W):{ f // SS W 10 (aH 2 [] none) (cU 0 (cU 2 (aj 2))) f }:=⟨_,
(
 af (am 5 tb_g% (ao fF (ao aM (ac 2 tb_g%) (ac 3 tb_g%)) ai))
 (af (cN (aC tO (ac 1 tb_g%) (au (ac 0 tb_g%) (ac 5 tb_g%))) (af (am 3 tb_g% (ac 5 tb_g%))
 ak) (af (am 2 tb_g% (ao aM (ac 5 tb_g%) ai))
 ak))
 ak))⟩
noncomputable def Jg (H:Wf W):{ f // SS W 10 (aH 2 [] none) (cU 2 (aj 2)) f }:=⟨_,
(
 af (kU 8 (aC jP (ac 2 tb_g%) (ac 3 tb_g%)) (IG H).2)
 ak)⟩
noncomputable def IH (H:Wf W):{ f // SS W 10 (aH 2 [] none) (cU 0 (Bl 2 (aj 2))) f }:=⟨_,
(
 af (am 5 tb_g% (ao fF (ao aM (ac 2 tb_g%) (ac 3 tb_g%)) ai))
 (af (cN (aC tO (ac 1 tb_g%) (i8 4 tb_g% (ad (au (ac 0 tb_g%) (ac 5 tb_g%)) ag) (by decide))) (af (am 3 tb_g% (ac 5 tb_g%))
 ak) (af (am 2 tb_g% (ao aM (ac 5 tb_g%) ai))
 ak))
 ak))⟩
noncomputable def Jf (H:Wf W):{ f // SS W 10 (aH 2 [] none) (Bl 2 (aj 2)) f }:=⟨_,
(
 af (kU 8 (aC jP (ac 2 tb_g%) (ac 3 tb_g%)) (IH H).2)
 ak)⟩
noncomputable def D2 (H:Wf W):{ f // SS W 10 (aH 2 [] none) (aj 2) f }:=⟨_,
(
 af (cN (aC jP (ac 2 tb_g%) ai) (af rJ
 ak) ak)
 (af (cN (aC xd (ac 3 tb_g%) iO) (af (am 3 tb_g% (aP 0 (H.bi tb_g% tb_g% tb_g%) H.v_len tb_g% cq (ad (ac 0 tb_g%) ag) (by decide)))
 ak) ak)
 (af (cN (jg 4 tb_g%) (Jg H).2 (Jf H).2)
 (af (b8 (ac 2 tb_g%))
 ak))))⟩
noncomputable def II (H:Wf W):{ f // SS W 10 (aH 4 [] none) (cU 0 (cU 2 (aj 4))) f }:=⟨_,
(
 af (am 5 tb_g% (ao fF (ao aM (ac 2 tb_g%) (ac 3 tb_g%)) ai))
 (af (cN (aC tO (au (ac 0 tb_g%) (ac 5 tb_g%)) (ac 1 tb_g%)) (af (am 2 tb_g% (ao aM (ac 5 tb_g%) ai))
 ak) (af (am 3 tb_g% (ac 5 tb_g%))
 ak))
 ak))⟩
noncomputable def Ji (H:Wf W):{ f // SS W 10 (aH 4 [] none) (cU 2 (aj 4)) f }:=⟨_,
(
 af (kU 8 (aC jP (ac 2 tb_g%) (ac 3 tb_g%)) (II H).2)
 ak)⟩
noncomputable def IJ (H:Wf W):{ f // SS W 10 (aH 4 [] none) (cU 0 (Bl 2 (aj 4))) f }:=⟨_,
(
 af (am 5 tb_g% (ao fF (ao aM (ac 2 tb_g%) (ac 3 tb_g%)) ai))
 (af (cN (aC tO (i8 4 tb_g% (ad (au (ac 0 tb_g%) (ac 5 tb_g%)) ag) (by decide)) (ac 1 tb_g%)) (af (am 2 tb_g% (ao aM (ac 5 tb_g%) ai))
 ak) (af (am 3 tb_g% (ac 5 tb_g%))
 ak))
 ak))⟩
noncomputable def Jh (H:Wf W):{ f // SS W 10 (aH 4 [] none) (Bl 2 (aj 4)) f }:=⟨_,
(
 af (kU 8 (aC jP (ac 2 tb_g%) (ac 3 tb_g%)) (IJ H).2)
 ak)⟩
noncomputable def D4 (H:Wf W):{ f // SS W 10 (aH 4 [] none) (aj 4) f }:=⟨_,
(
 af (cN (aC jP (ac 2 tb_g%) ai) (af rJ
 ak) ak)
 (af (cN (aC xd (ac 3 tb_g%) iO) (af (am 3 tb_g% (aP 0 (H.bi tb_g% tb_g% tb_g%) H.v_len tb_g% cq (ad (ac 0 tb_g%) ag) (by decide)))
 ak) ak)
 (af (cN (jg 4 tb_g%) (Ji H).2 (Jh H).2)
 (af (b8 (ac 2 tb_g%))
 ak))))⟩
noncomputable def KD (H:Wf W):{ f // SS W 10 (aH 12 [] none) (aj 12) f }:=⟨_,
(
 af (tn 2 tb_g% n6)
 (af (el (pC (ac 0 tb_g%)) (cz 3 4 tb_g% tb_g%) (af (jO 2 tb_g% (ac 3 tb_g%) (ac 4 tb_g%))
 ak))
 (af (el (pC (ac 1 tb_g%)) (cz 3 4 tb_g% tb_g%) (af (cN (aC Ei (ac 3 tb_g%) (ac 2 tb_g%)) (af (cN (wG (Az (H.bi tb_g% tb_g% tb_g%) (H.bi tb_g% tb_g% tb_g%) (ac 4 tb_g%))) (af rJ
 ak) (af (pE 2 tb_g% la (ac 3 tb_g%) (ac 4 tb_g%))
 ak))
 ak) (af (jO 2 tb_g% (ac 3 tb_g%) (ac 4 tb_g%))
 ak))
 ak))
 (eY [2] (af (b8 (ac 2 tb_g%))
 ak)))))⟩
noncomputable abbrev iL (H:Wf W):List PV->Option PV:=fC (bC (aH 12 [] none) [0,1] (KD H).1)
theorem JN (H:Wf W):gJ W 11 (λvs=>call (.ref 113) vs) (iL H):=by
 obtain ⟨m,tok,F⟩:=H.f12.at tb_g%
 exact fw F rfl tb_g% (names:=["target","source"]) tb_g% (KD H).2 (l2 λU U=>rfl) (cI tb_g%)
theorem Wf.c_add_callers (H:Wf W) {n:Nat} {fc:FC} {y:Str} {p pos:Pos} {e:Expr} {es:List Expr} {fa:List SV->Option (List PV)} (hg:cG W fc y 113) (ha:gb W n fc (e::es) fa) (hk:11<=n)
  (he:∀ env,starEach (e::es) env=(false,eval e env)::starEach es env:=by w_left):SE W n fc (.Call (.Name y p) (e::es) [] pos) (λst=>(fa st).bind λds=>(iL H ds).map .d):=by
 obtain ⟨m,tok,h1,h2⟩:=H.f12
 exact cE 11 hg h1 rfl (JN H) ha hk he
noncomputable def KE (H:Wf W):{ f // SS W 10 (aH 13 [] none) (aj 13) f }:=⟨_,
(
 af (am 1 tb_g% ai)
 (af (el (vj (ac 0 tb_g%)) (ay 2 tb_g%) (af (wK 1 tb_g% tb_g% la (ac 2 tb_g%))
 ak))
 (af (b8 (ac 1 tb_g%))
 ak)))⟩
noncomputable abbrev iM (H:Wf W):List PV->Option PV:=fC (bC (aH 13 [] none) [0] (KE H).1)
theorem JO (H:Wf W):gJ W 11 (λvs=>call (.ref 120) vs) (iM H):=by
 obtain ⟨m,tok,F⟩:=H.f13.at tb_g%
 exact fw F rfl tb_g% (names:=["callers"]) tb_g% (KE H).2 (l1 λU=>rfl) (cI tb_g%)
theorem Wf.c_count_calls (H:Wf W) {n:Nat} {fc:FC} {y:Str} {p pos:Pos} {e:Expr} {es:List Expr} {fa:List SV->Option (List PV)} (hg:cG W fc y 120) (ha:gb W n fc (e::es) fa) (hk:11<=n)
  (he:∀ env,starEach (e::es) env=(false,eval e env)::starEach es env:=by w_left):SE W n fc (.Call (.Name y p) (e::es) [] pos) (λst=>(fa st).bind λds=>(iM H ds).map .d):=by
 obtain ⟨m,tok,h1,h2⟩:=H.f13
 exact cE 11 hg h1 rfl (JO H) ha hk he
noncomputable def KC (H:Wf W):{ f // SS W 11 (aH 11 [] none) (aj 11) f }:=⟨_,
(
 af (lu (ac 1 tb_g%) (n8 5 (c9 (ay 2 tb_g%) (c9 (ay 3 tb_g%) (c9 (ay 4 tb_g%) (c9 (ay 5 tb_g%) (c9 (ay 6 tb_g%) rD))))) (bT (bT (bT (bT (bT (λst ds st' h=>fD h))))))))
 (af (lu (ac 0 tb_g%) (n8 5 (c9 (ay 7 tb_g%) (c9 (ay 8 tb_g%) (c9 (ay 9 tb_g%) (c9 (ay 10 tb_g%) (c9 (ay 11 tb_g%) rD))))) (bT (bT (bT (bT (bT (λst ds st' h=>fD h))))))))
 (af (b8 (bA (ad (ao aM (ac 2 tb_g%) (ac 7 tb_g%)) (ad (ao aM (ac 3 tb_g%) (ac 8 tb_g%)) (ad (ao aM (ac 4 tb_g%) (ac 9 tb_g%)) (ad (ao aM (ac 5 tb_g%) (ac 10 tb_g%)) (ad (H.c_add_callers  (H.gl tb_g% tb_g% tb_g%) (ad (ac 11 tb_g%) (ad (ac 6 tb_g%) ag)) (by w_fin)) ag)))))))
 ak)))⟩
noncomputable abbrev fP (H:Wf W):List PV->Option PV:=fC (bC (aH 11 [] none) [0,1] (KC H).1)
theorem JM (H:Wf W):gJ W 12 (λvs=>call (.ref 106) vs) (fP H):=by
 obtain ⟨m,tok,F⟩:=H.f11.at tb_g%
 exact fw F rfl tb_g% (names:=["target","source"]) tb_g% (KC H).2 (l2 λU U=>rfl) (cI tb_g%)
theorem Wf.c_add_func_stats (H:Wf W) {n:Nat} {fc:FC} {y:Str} {p pos:Pos} {e:Expr} {es:List Expr} {fa:List SV->Option (List PV)} (hg:cG W fc y 106) (ha:gb W n fc (e::es) fa) (hk:12<=n)
  (he:∀ env,starEach (e::es) env=(false,eval e env)::starEach es env:=by w_left):SE W n fc (.Call (.Name y p) (e::es) [] pos) (λst=>(fa st).bind λds=>(fP H ds).map .d):=by
 obtain ⟨m,tok,h1,h2⟩:=H.f11
 exact cE 12 hg h1 rfl (JM H) ha hk he
noncomputable def D6 (H:Wf W):{ f // Gb W 10 (aH 6 [] none) (aj 6) f }:=⟨_,
(
 ja (rC (jb tb_g% (am 1 tb_g% ai)))
 (ja (rC (jb tb_g% (am 2 tb_g% cX)))
 (ja (AE tb_g% (wy (H.bi tb_g% tb_g% tb_g%) H.v_enumerate tb_g% (ac 0 tb_g%)) (cz 1 3 tb_g% tb_g%) (f9 (ww tb_g% (wG (ac 2 tb_g%)) (f9 (lr tb_g% (bA (ad (ac 1 tb_g%) (ad (ao aM (bU [92] tb_g%) (ac 3 tb_g%)) ag)))) (f9 (jb tb_g% (am 2 tb_g% cX)) iQ)) (f9 (ww tb_g% (aC ge (ac 3 tb_g%) (bU [92] tb_g%)) (f9 (jb tb_g% (am 2 tb_g% cX)) iQ) (f9 (lr tb_g% (bA (ad (ac 1 tb_g%) (ad (ac 3 tb_g%) ag)))) iQ)) iQ)) iQ))
 (ja (rC (ww tb_g% (wG (ac 2 tb_g%)) (f9 (lr tb_g% (bA (ad (ac 1 tb_g%) (ad (bU [92] tb_g%) ag)))) iQ) iQ))
 AD))))⟩
noncomputable abbrev lS (H:Wf W):List PV->Option (List PV):=Ew (aH 6 [] none) [0] (D6 H).1
theorem Lv (H:Wf W):Jk W 10 2 (λvs=>call (.ref 57) vs) (lS H):=by
 obtain ⟨m,tok,F⟩:=H.f6.gn tb_g%
 exact xf F rfl tb_g% tb_g% rfl (names:=["addr"]) tb_g% (D6 H).2 (l1 λU=>rfl)
theorem Wf.itG (H:Wf W) {n:Nat} {fc:FC} {y:Str} {tgt:Expr} {p pos:Pos} {e:Expr} {es:List Expr} {fa:List SV->Option (List PV)} (hg:cG W fc y 57) (ha:gb W n fc (e::es) fa) (hk:12<=n)
  (he:∀ env,starEach (e::es) env=(false,eval e env)::starEach es env:=by w_left):wh W n fc tgt (.Call (.Name y p) (e::es) [] pos) (λst=>(fa st).bind (lS H)):=by
 obtain ⟨m,tok,h1,h2⟩:=H.f6
 exact wz 10 hg h1 rfl (Lv H) ha hk he
noncomputable def IK (H:Wf W):{ f // SS W 13 (aH 7 [] none) ((aj 7).drop 5) f }:=⟨_,
(
 af (cN (aC jP (ac 1 tb_g%) (aP 0 (H.bi tb_g% tb_g% tb_g%) H.v_len tb_g% cq (ad (ac 0 tb_g%) ag) (by decide))) (af (fM 3 tb_g% (bu (ac 0 tb_g%) (bJ (ac 1 tb_g%)) bg bg))
 ak) ak)
 (eY [3] (af (b8 (n5 (bU [] tb_g%) (ac 3 tb_g%)))
 ak)))⟩
noncomputable def CN (H:Wf W):{ f // SS W 13 (aH 7 [] none) (cU 4 (aj 7)) f }:=⟨_,
(
 af (cN (aC ge (ac 5 tb_g%) (bU [34] tb_g%)) (af (cN (aC xd (ac 2 tb_g%) iO) (af (am 2 tb_g% (ac 4 tb_g%))
 ak) (af (cN (aC fA (ac 1 tb_g%) (ac 2 tb_g%)) (af (fM 3 tb_g% (bu (ac 0 tb_g%) (bJ (ac 1 tb_g%)) (bJ (ac 2 tb_g%)) bg))
 ak) ak)
 (af (am 1 tb_g% (ao aM (ac 4 tb_g%) ai))
 (af (am 2 tb_g% iO)
 ak))))
 ak) ak)
 ak)⟩
noncomputable def D7 (H:Wf W):{ f // SS W 13 (aH 7 [] none) (aj 7) f }:=⟨_,
(
 af (cN (aC oF (bU [34] tb_g%) (ac 0 tb_g%)) (af (b8 (ac 0 tb_g%))
 ak) ak)
 (af (am 1 tb_g% ai)
 (af (am 2 tb_g% iO)
 (af (tn 3 tb_g% (bY ag))
 (af (el (H.itG (H.gl tb_g% tb_g% tb_g%) (ad (ac 0 tb_g%) ag) (by decide)) (cz 4 5 tb_g% tb_g%) (CN H).2)
 (IK H).2)))))⟩
noncomputable abbrev a9 (H:Wf W):List PV->Option PV:=fC (bC (aH 7 [] none) [0] (D7 H).1)
theorem Lx (H:Wf W):gJ W 14 (λvs=>call (.ref 64) vs) (a9 H):=by
 obtain ⟨m,tok,F⟩:=H.f7.at tb_g%
 exact fw F rfl tb_g% (names:=["addr"]) tb_g% (D7 H).2 (l1 λU=>rfl) (cI tb_g%)
theorem Wf.c_strip_quoted_realnames (H:Wf W) {n:Nat} {fc:FC} {y:Str} {p pos:Pos} {e:Expr} {es:List Expr} {fa:List SV->Option (List PV)} (hg:cG W fc y 64) (ha:gb W n fc (e::es) fa) (hk:14<=n)
  (he:∀ env,starEach (e::es) env=(false,eval e env)::starEach es env:=by w_left):SE W n fc (.Call (.Name y p) (e::es) [] pos) (λst=>(fa st).bind λds=>(a9 H ds).map .d):=by
 obtain ⟨m,tok,h1,h2⟩:=H.f7
 exact cE 14 hg h1 rfl (Lx H) ha hk he
noncomputable def D8 (H:Wf W):{ f // SS W 15 (aH 8 [] none) (aj 8) f }:=⟨_,
(
 af (am 0 tb_g% (H.c_strip_quoted_realnames  (H.gl tb_g% tb_g% tb_g%) (ad (ac 0 tb_g%) ag) (by w_fin)))
 (af (am 1 tb_g% ai)
 (af (el (H.itG (H.gl tb_g% tb_g% tb_g%) (ad (ac 0 tb_g%) ag) (by decide)) (cz 2 3 tb_g% tb_g%) (af (cN (aC ge (ac 3 tb_g%) (bU [40] tb_g%)) (af (wK 1 tb_g% tb_g% la ai)
 ak) (af (cN (aC ge (ac 3 tb_g%) (bU [41] tb_g%)) (af (wK 1 tb_g% tb_g% BT ai)
 (af (cN (aC jP (ac 1 tb_g%) ai) (af (b8 cX)
 ak) ak)
 ak)) ak)
 ak))
 ak))
 (af (b8 (mR ge (ac 1 tb_g%) ai))
 ak))))⟩
noncomputable abbrev az (H:Wf W):List PV->Option PV:=fC (bC (aH 8 [] none) [0] (D8 H).1)
theorem Ly (H:Wf W):gJ W 16 (λvs=>call (.ref 71) vs) (az H):=by
 obtain ⟨m,tok,F⟩:=H.f8.at tb_g%
 exact fw F rfl tb_g% (names:=["addr"]) tb_g% (D8 H).2 (l1 λU=>rfl) (cI tb_g%)
theorem Wf.c_check_parenthesis (H:Wf W) {n:Nat} {fc:FC} {y:Str} {p pos:Pos} {e:Expr} {es:List Expr} {fa:List SV->Option (List PV)} (hg:cG W fc y 71) (ha:gb W n fc (e::es) fa) (hk:16<=n)
  (he:∀ env,starEach (e::es) env=(false,eval e env)::starEach es env:=by w_left):SE W n fc (.Call (.Name y p) (e::es) [] pos) (λst=>(fa st).bind λds=>(az H ds).map .d):=by
 obtain ⟨m,tok,h1,h2⟩:=H.f8
 exact cE 16 hg h1 rfl (Ly H) ha hk he
noncomputable def Hp:Str×NameKind->Bool
 | (_,.cell)=>true
 | _=>false
theorem GV {o} (h:o.any Hp=true):∃ y,o=some (y,.cell):=by
 cases o with
 | none=>w_cond h
 | some p=>
  obtain ⟨y,k⟩:=p
  cases k <;> first | exact ⟨y,rfl⟩ | w_cond h
noncomputable def Dk (fc:FC) (i:Nat):Bool:=(fc.names[i]?).any Hp
theorem eh {fc i} (st) (sv) (h:dK fc i=true):cF fc st i sv=st.set i sv:=by
 obtain ⟨y,e⟩:=yQ h
 exact ty e
theorem Jr {fc i} (st) (sv) (h:Dk fc i=true):cF fc st i sv=(st.map ci).set i sv:=by
 obtain ⟨y,e⟩:=GV h
 exact CS e
theorem wU {k i wn lam st sv}:cF (aH k wn lam) st i sv=AS ((gj k)[i]?) st i sv:=rfl
theorem ou {st i sv}:AS (some true) st i sv=(st.map ci).set i sv:=b7 ..
theorem oq {st i sv}:AS (some false) st i sv=st.set i sv:=b7 ..
theorem tw {fc sc i} (st) (sv) (h:dK (mK fc sc) i=true):cF (mK fc sc) st i sv=st.set i sv:=eh st sv h
theorem tv {fc sc i} (st) (sv) (h:Dk (mK fc sc) i=true):cF (mK fc sc) st i sv=(st.map ci).set i sv:=Jr st sv h
theorem yA {α:Type} {a b:α}:(if true=true then a else b)=a:=rfl
theorem yz {α:Type} {a b:α}:(if false=true then a else b)=b:=rfl
theorem dg {l} (h:l.length<=be):ei l=some (.str l):=if_pos h
theorem dC {l} (h:l.length<=be):b9 l=some (.list l):=if_pos h
theorem ug (a b):jU [a,b]=some (.tuple [a,b]):=rfl
theorem uh (a b c):jU [a,b,c]=some (.tuple [a,b,c]):=rfl
theorem ui (a b c d):jU [a,b,c,d]=some (.tuple [a,b,c,d]):=rfl
theorem uj (a b c d e):jU [a,b,c,d,e]=some (.tuple [a,b,c,d,e]):=rfl
theorem xO:b9 []=some (.list []):=rfl
theorem xP (a):b9 [a]=some (.list [a]):=rfl
theorem xQ (a b):b9 [a,b]=some (.list [a,b]):=rfl
theorem xR (a b c):b9 [a,b,c]=some (.list [a,b,c]):=rfl
theorem xS (a b c d):b9 [a,b,c,d]=some (.list [a,b,c,d]):=rfl
section
variable {fc:FC} {s:SV} {st:List SV}
theorem zK {d}:rd (.d d::st) 0=some (.d d):=rfl
theorem zL {d}:rd (.own d::st) 0=some (.own d):=rfl
theorem Du {f}:rd (.fn f::st) 0=some (.fn f):=rfl
theorem uR {i}:rd (s::st) (i+1)=rd st i:=rfl
theorem lL {d}:ci (.d d)= .d d:=rfl
theorem lN {d}:ci (.own d)= .own d:=rfl
theorem jr:ci .u= .u:=rfl
theorem m2 {f}:ci (.fn f)= .u:=rfl
theorem lM {c d}:ci (.obj c d)= .obj c d:=rfl
theorem p6 {d}:dy (some (.d d))=some d:=rfl
theorem G9 {f}:de f (s::st)=dy (f (s::st)):=rfl
theorem xI {f}:Df (some (.fn f))=some f:=rfl
theorem qH {c d}:qF c (some (.obj c d))=some d:=by
 unfold qF;exact if_pos ⟨rfl,rfl⟩
theorem H9 {f}:pe f (s::st)=(f (s::st)).bind qU:=rfl
theorem qV {d}:qU (.d d)=some d:=rfl
theorem qW {d}:qU (.own d)=some d:=rfl
noncomputable def o5 (o:Option SV):Option SV:=o.bind EP
theorem md {d}:o5 (some (.d d))=some (.d d):=rfl
theorem nH {f}:o5 (some (.fn f))=some (.fn f):=rfl
theorem me {c d}:o5 (some (.obj c d))=some (.obj c d):=rfl
theorem Iz {f}:ve f (s::st)=o5 (f (s::st)):=rfl
theorem u4 {i d}:v6 fc i (.d d)=true:=rfl
noncomputable def uE (r:Option (List SV×Fl)) (g:List SV->Option (List SV×Fl)):Option (List SV×Fl):=match r with
 | some (st',.next)=>g st'
 | r=>r
theorem bk {st' g}:uE (some (st',.next)) g=g st':=rfl
theorem uG {st' v g}:uE (some (st',.ret v)) g=some (st',.ret v):=rfl
theorem uF {st' g}:uE (some (st',.brk)) g=some (st',.brk):=rfl
theorem k9 {c} [Decidable c] {a b g}:uE (if c then a else b) g=if c then uE a g else uE b g:=by split <;> rfl
theorem zV {f g}:aV f g (s::st)=uE (f (s::st)) g:=rfl
noncomputable def bG {α:Type} (b:Bool) (x:Option α):Option α:=if b then x else none
theorem GK {α:Type} {x:Option α}:bG true x=x:=rfl
theorem wV {i f}:rM fc i f (s::st)=(f (s::st)).bind λsv=>bG (v6 fc i sv) (some (cF fc (s::st) i sv,.next)):=rfl
theorem zj {i f}:BV fc i f (s::st)=(f (s::st)).map λd=>(cF fc (s::st) i (.own d),.next):=rfl
theorem zP {f}:Ig f (s::st)=(f (s::st)).map λd=>(s::st,.ret (.d d)):=rfl
noncomputable def EV (st:List SV) (j:Nat) (g:PV->Option PV) (o:Option SV):Option (List SV×Fl):=(FW o).bind λd=>(g d).map λd'=>(st.set j (.own d'),.next)
theorem qK {st' j g d}:EV st' j g (some (.own d))=(g d).map λd'=>(st'.set j (.own d'),.next):=rfl
theorem lg {j g}:jx j g (s::st)=EV (s::st) j g ((s::st)[j]?):=by
 unfold jx EV;simp only [bV,b7]
theorem zW {j fi fv}:Il j fi fv (s::st)=(de fv (s::st)).bind λv=>(de fi (s::st)).bind λk=>jx j (λd=>iZ d k v) (s::st):=rfl
theorem wX {j fop fv}:GH fc j fop fv (s::st)=(dy (rd (s::st) j)).bind λa=>(de fv (s::st)).bind λb=>(fop a b).map λr=>(cF fc (s::st) j (.d r),.next):=rfl
theorem tz {j fop fi fv}:CT j fop fi fv (s::st)=(de fi (s::st)).bind λk=>(de fv (s::st)).bind λv=>jx j (λd=>(a8 d k).bind λold=>(fop old v).bind λnew=>iZ d k new) (s::st):=rfl
theorem wR {j fv}:GF j fv (s::st)=(de fv (s::st)).bind λv=>jx j (λd=>(pA d).bind λxs=>b9 (xs++[v])) (s::st):=rfl
noncomputable def AO (fr:List SV->Option (List SV×Fl)) (r:Option (List SV×Fl)):Option (List SV×Fl):=match r with
 | some (st',.next)=>fr st'
 | some (st',.brk)=>some (st',.next)
 | r=>r
theorem pG {st' g}:AO g (some (st',.next))=g st':=rfl
theorem tr {st' v g}:AO g (some (st',.ret v))=some (st',.ret v):=rfl
theorem tq {st' g}:AO g (some (st',.brk))=some (st',.next):=rfl
theorem kW {c} [Decidable c] {a b g}:AO g (if c then a else b)=if c then AO g a else AO g b:=by split <;> rfl
theorem rZ {ftg fb x xs st}:d7 ftg fb (x::xs) st=(ftg st x).bind λst1=>AO (d7 ftg fb xs) (fb st1):=rfl
theorem sd {ftg fb st}:d7 ftg fb [] st=some (st,.next):=rfl
theorem l5 {st' v}:jX (some (st',.ret v))=some v:=rfl
theorem ku {st'}:jX (some (st',.next))=some (.d .none):=rfl
theorem xN {is:List Nat}:dH [] (s::st)=some (s::st):=rfl
noncomputable def Ev (st:List SV) (i:Nat) (is:List Nat) (o:Option SV):Option (List SV):=(FW o).bind λd=>dH is (st.set i (.d d))
theorem qh {st' i is d}:Ev st' i is (some (.own d))=dH is (st'.set i (.d d)):=rfl
theorem oQ {i is}:dH (i::is) (s::st)=Ev (s::st) i is ((s::st)[i]?):=by
 show (FW (cn (s::st) i)).bind (λd=>dH is (fV (s::st) i (.d d)))=_
 unfold Ev;simp only [bV,b7]
noncomputable def Dd (o:Option SV):Option SV:=(dy o).bind λd=>if d.flat then some (.d d) else none
theorem m8 {d}:Dd (some (.d d))=bG d.flat (some (.d d)):=rfl
theorem xM {is f}:JA is f (s::st)=(dH is (s::st)).bind λst'=>Dd (f st'):=rfl
theorem uN {i j a b}:kA fc i j (s::st) (.tuple [a,b])=some (cF fc (cF fc (s::st) i (.d a)) j (.d b)):=rfl
theorem uk {f g x xs}:qi f g (s::st) (x::xs)=(f (s::st) x).bind λst'=>g st' xs:=rfl
theorem xX:Bx (s::st) []=some (s::st):=rfl
theorem xZ {g ds}:EA g (s::st) (.tuple ds)=g (s::st) ds:=rfl
theorem xY {f g}:Ez f g (s::st)=(f (s::st)).bind λp=>(g p.2).map λq=>(p.1++q.1,q.2):=rfl
noncomputable def Hj (o:Option (List SV×Fl)):Option (List PV×List SV):=(y6 o).bind λst'=>if er st' then some ([],st') else none
theorem nv {st'}:Hj (some (st',.next))=bG (er st') (some ([],st')):=rfl
theorem Dh {f}:KX f (s::st)=Hj (f (s::st)):=rfl
theorem yc {f}:Hk f (s::st)=(dy (f (s::st))).map λy=>([y],s::st):=rfl
theorem xW {ftg fb}:ql ftg fb [] (s::st)=some ([],s::st):=rfl
theorem xV {ftg fb x xs}:ql ftg fb (x::xs) (s::st)=(ftg (s::st) x).bind λst1=>bG (er st1) ((fb st1).bind λp=>(ql ftg fb xs p.2).map λq=>(p.1++q.1,q.2)):=rfl
end
theorem HP {α β:Type} {f:α->β} {a l}:(a::l).map f=f a::l.map f:=rfl
theorem HQ {α β:Type} {f:α->β}:([]:List α).map f=[]:=rfl
theorem DA {b}:(true&&b)=b:=rfl
theorem Iv {b}:(true || b)=true:=rfl
theorem Hg {b}:(false || b)=b:=rfl
theorem Dc {b}:(false&&b)=false:=rfl
theorem Dr:(!true)=false:=rfl
theorem Dq:(!false)=true:=rfl
theorem Ey {fc ix fg ds}:Ew fc ix fg ds=(aY fc ix (ds.map .d) (bc fc)).bind λst=>bG (er st) ((fg st).map (·.1)):=rfl
theorem kz {b}:sM (.bool b)=some b:=rfl
theorem qL {a b}:zk (.int a) (.int b)=some (.int (a + b)):=rfl
theorem qM {a b}:zk (.str a) (.str b)=ei (a++b):=rfl
theorem nK {a b}:zk (.list a) (.list b)=b9 (a++b):=rfl
theorem qS {a b}:H7 (.int a) (.int b)=some (.int (a - b)):=rfl
theorem qo {a b}:Hl (.int a) (.int b)=some (.int (a + b)):=rfl
theorem qp {a b}:Hm (.int a) (.int b)=some (.int (a - b)):=rfl
theorem om {i}:fG (.int i)=some i:=rfl
theorem tu {l}:vr (.str l)=some l:=rfl
theorem pJ {l}:pA (.list l)=some l:=rfl
theorem nM {b}:H3 [.bool b]=some (.int (if b then 1 else 0)):=rfl
theorem qR {l}:BW [.str l]=some (.int l.length):=rfl
theorem jZ {l}:BW [.list l]=some (.int l.length):=rfl
theorem qO {ks xs k}:a8 (.dS ks xs) (.str k)=eO ks xs k:=rfl
theorem qN {ks xs k}:a8 (.dI ks xs) (.int k)=eN ks xs k:=rfl
theorem ml {xs}:gI (.list xs)=some xs:=rfl
theorem ky {xs}:gI (.tuple xs)=some xs:=rfl
theorem qQ {ks xs}:gI (.dS ks xs)=some (ks.map .str):=rfl
theorem qP {ks xs}:gI (.dI ks xs)=some (ks.map .int):=rfl
theorem tC {a b}:Am (.str a) (.str b)=some (a==b):=rfl
theorem tB {a b}:Am (.int a) (.int b)=some (a==b):=rfl
theorem pN {a b}:Am (.bool a) (.bool b)=some (a==b):=rfl
theorem tM {a b}:FU (.str a) (.str b)=some (!(a==b)):=rfl
theorem tK {a b}:FU (.int a) (.int b)=some (!(a==b)):=rfl
theorem tH {a b}:GR (.int a) (.int b)=some (decide (a<b)):=rfl
theorem tJ {a b}:GR (.str a) (.str b)=some (decide (a<b)):=rfl
theorem tE {a b}:Jt (.int a) (.int b)=some (decide (b<a)):=rfl
theorem tF {a b}:Ll (.int a) (.int b)=some (decide (a<=b)):=rfl
theorem tD {a b}:Lk (.int a) (.int b)=some (decide (b<=a)):=rfl
theorem jo {d:PV}:GQ d .none=some (match d with | .none=>true | _=>false):=by cases d <;> rfl
theorem jn {a b}:GQ (.bool a) (.bool b)=some (a==b):=rfl
theorem pO {c l}:w8 (.str [c]) (.str l)=some (decide (c∈l)):=rfl
theorem w9 {k ks xs}:w8 (.str k) (.dS ks xs)=some (eO ks xs k).isSome:=rfl
theorem gO {d xs}:w8 d (.list xs)=ol d xs:=by cases d <;> rfl
theorem qe {i}:(PV.int i).flat=true:=rfl
theorem qf {i}:(PV.str i).flat=true:=rfl
theorem nl {i}:(PV.bool i).flat=true:=rfl
theorem nr:PV.none.flat=true:=rfl
theorem nj:er []=true:=rfl
theorem m9 {d st}:er (.d d::st)=(d.flat&&er st):=rfl
theorem kl {st}:er (.u::st)=er st:=rfl
theorem t6 {i}:en i []=[]:=rfl
theorem kX {i x xs}:en i (x::xs)= .tuple [.int i,x]::en (i+1) xs:=rfl
local macro_rules (kind:=tacticWp_walkUsing_) | s=>return Ld s "HP HQ DA Iv Hg Dc Dr Dq GK xI om tu pJ wU ou oq G0 G1 G2 G3 G4 G5 G6 C0 C1 C2 C3 C4 C5 C6 C7 C8 tw tv yA yz ug uh ui uj xO xP xQ xR xS zK zL Du uR lL lN jr m2 lM p6 G9 H9 qV qW md nH me Iz u4 bk uG uF k9 zV wV zj zP qK lg zW wX tz wR pG tr tq kW rZ sd l5 ku xN qh oQ m8 xM uN uk xX xZ xY nv Dh yc xW xV kz qL qM nK qS qo qp nM qR jZ ml ky qQ qP tC tB pN tM tK tH tJ tE tF tD jo jn pO w9 gO qe qf nl nr nj m9 kl t6 kX Option.bind_some Option.bind_none Option.map_some Option.map_none List.set_cons_succ List.set_cons_zero List.getElem?_cons_succ List.getElem?_cons_zero List.map_cons List.map_nil List.cons_append List.nil_append List.append_nil Bool.and_true Bool.true_and Bool.and_self if_true if_false Bool.false_eq_true Bool.not_true Bool.not_false decide_true decide_false" "qO qN tw tv qH jo gO k9 kW List.append_nil Bool.and_true Bool.and_self if_true if_false Bool.false_eq_true decide_true decide_false id_eq ou oq lg oQ"
local macro_rules (kind:=PySem.W.tacticW_fin) | s=>return K6 [DC [eS "(%solveByElim 'solve_by_elim (null ) (%optConfig (null (%configItem (%valConfigItem '( maxDepth ':= (num '5 ) ') ) ) ) ) (null 'only ) (null (%SolveByElim.args '[ $0 '] ) ) (null ) )" #[FZ "," (CI "(%SolveByElim.arg $0 )" #[] (eS "(%SolveByElim.star '* )" #[]::FP [`Nat.lt_of_lt_of_le,`Nat.lt_of_le_of_lt,`Nat.le_trans,`Nat.le_of_lt,`Nat.lt_succ_of_le,`Nat.le_succ_of_le,`Nat.succ_le_succ,`Nat.zero_le])) #[]]]]
noncomputable def ch:Nat->Bool->List Nat->List (Nat×List Nat)
 | p,false,[]=>[]
 | p,true,[]=>[(p - 1,[92])]
 | p,true,c::l=>(p,[92,c])::ch (p+1) false l
 | p,false,c::l=>if c=92 then ch (p+1) true l else (p,[c])::ch (p+1) false l
theorem yC {p}:ch p false []=[]:=rfl
theorem yD {p}:ch p true []=[(p - 1,[92])]:=rfl
theorem yE {p c l}:ch p true (c::l)=(p,[92,c])::ch (p+1) false l:=rfl
theorem fT {p c l}:ch p false (c::l)=if c=92 then ch (p+1) true l else (p,[c])::ch (p+1) false l:=rfl
noncomputable def bK (u:Nat×List Nat):PV:= .tuple [.int u.1,.str u.2]
theorem GM (a b:Nat):([a]==[b])=decide (a=b):=by by_cases h:a=b <;> simp [h]
theorem xU (a b):ei [a,b]=some (.str [a,b]):=rfl
theorem jV (H) (l):lS H [.str l]=some ((ch 0 false l).map bK):=by
 have e1:aY (aH 6 [] none) [0] [SV.d (PV.str l)] (bc (aH 6 [] none))=some [.d (.str l),.u,.u,.u,.u]:=by
  show some (cF _ _ _ _)=_
  rw [eh _ _ tb_g%]
  rfl
 unfold lS
 rw [Ey]
 simp only [D6,List.map_cons,List.map_nil,e1,Option.bind_some]
 wp_walk
 generalize hgf:ql (kA (aH 6 [] none) 1 3) _=gf
 have key:∀ (m:List Nat) (p:Nat) (b:Bool) (w:SV),er [w]=true->∃ ys b' w',gf (en p (m.map λc=>PV.str [c])) [.d (.str l),.d (.int (p - 1:Nat)),.d (.bool b),w,.u]=some (ys,[.d (.str l),.d (.int (p + m.length - 1:Nat)),.d (.bool b'),w',.u])/\er [w']=true/\
   (ch p b m).map bK=ys++(if b' then [.tuple [.int (p + m.length - 1:Nat),.str [92]]] else []):=by
  intro m
  induction m with
  | nil=>
   intro p b w hw
   refine ⟨[],b,w,?_,hw,?_⟩
   ·rw [<-hgf];rfl
   ·cases b <;> rfl
  | cons c m ih=>
   intro p b w hw
   obtain ⟨ys,b',w',h1,h2,h3⟩:=ih (p+1) (if b then false else decide (c=92)) (.d (.str [c])) rfl
   have hp:p+1 + m.length - 1=p + (c::m).length - 1:=by rw [List.length_cons];w_fin
   rw [hp] at h1 h3
   rw [Nat.add_sub_cancel] at h1
   cases b with
   | true=>
    refine ⟨.tuple [.int p,.str [92,c]]::ys,b',w',?_,h2,?_⟩
    ·rw [<-hgf] at h1 ⊢
     wp_walk using xU
     simp only [if_true] at h1
     rw [h1]
     rfl
    ·simp only [if_true] at h3
     show bK _::_=_
     rw [h3];rfl
   | false=>
    simp only [Bool.false_eq_true,if_false] at h1 h3
    by_cases hc:c=92
    ·refine ⟨ys,b',w',?_,h2,?_⟩
     ·rw [<-hgf] at h1 ⊢
      wp_walk using xU,GM,hc,decide_true
      simp only [hc,decide_true] at h1
      rw [h1]
      rfl
     ·rw [fT,if_pos hc]
      simp only [hc,decide_true] at h3
      exact h3
    ·refine ⟨.tuple [.int p,.str [c]]::ys,b',w',?_,h2,?_⟩
     ·rw [<-hgf] at h1 ⊢
      wp_walk using xU,GM,decide_eq_false hc
      simp only [decide_eq_false hc] at h1
      rw [h1]
      rfl
     ·rw [fT,if_neg hc]
      simp only [decide_eq_false hc] at h3
      show bK _::_=_
      rw [h3];rfl
 obtain ⟨ys,b',w',h1,h2,h3⟩:=key l 0 false .u rfl
 have h1':gf (en 0 (l.map λc=>PV.str [c])) [.d (.str l),.d (.int 0),.d (.bool false),.u,.u]=some (ys,[.d (.str l),.d (.int (0 + l.length - 1:Nat)),.d (.bool b'),w',.u]):=h1
 erw [h1',h3]
 cases b' <;> wp_walk
theorem sL {l lo hi}:dh (.str l) lo hi none=ei (ce l lo hi none):=congrArg ei (sX ..)
theorem eg {l lo hi}:dh (.list l) lo hi none=b9 (ce l lo hi none):=congrArg b9 (sX ..)
theorem vR {l}:dh (.list l) none none (some 1)=b9 l:=by
 show (if (ce l none none (some 1)).length<=be then some (PV.list (ce l none none (some 1))) else none)=_
 erw [rc];rfl
theorem vQ {l}:dh (.list l) none none (some (-1))=b9 l.reverse:=by
 show (if (ce l none none (some (-1))).length<=be then some (PV.list (ce l none none (some (-1)))) else none)=_
 erw [zY];rfl
theorem ki {c l}:iR (.str [c]) (.str l)=some (!decide (c∈l)):=rfl
theorem mV {k ks xs}:iR (.str k) (.dS ks xs)=some (!(eO ks xs k).isSome):=rfl
theorem kh {d xs}:iR d (.list xs)=(ol d xs).map (!·):=by cases d <;> rfl
theorem Ah {l}:wf (.str l)=some "str":=rfl
theorem nV:∀ ls:List (List Nat),jF (ls.map .str)=some ls:=by
 intro zv
 induction zv with
 | nil=>exact rfl
 | cons l ls ih=>
  rw [List.map_cons];show (jF (ls.map .str)).map _=_;rw [ih];rfl
theorem nN {ls:List (List Nat)}:zm [.str [],.list (ls.map .str)]=ei ls.flatten:=by
 show (jF (ls.map .str)).bind _=_
 erw [nV];rfl
theorem xy {f ds}:fC f ds=dy (f (ds.map .d)):=rfl
theorem Fb {c d st}:rd (.obj c d::st) 0=some (.obj c d):=rfl
theorem lQ {l}:(PV.tuple l).flat=false:=rfl
theorem nq {l}:(PV.list l).flat=false:=rfl
theorem uc {ks l}:(PV.dS ks l).flat=false:=rfl
theorem Hq {a}:a8 (.tuple [a]) (.int 0)=some a:=rfl
theorem Hr {a b}:a8 (.tuple [a,b]) (.int 0)=some a:=rfl
theorem Hs {a b}:a8 (.tuple [a,b]) (.int 1)=some b:=rfl
theorem Ht {a b c}:a8 (.tuple [a,b,c]) (.int 0)=some a:=rfl
theorem Hu {a b c}:a8 (.tuple [a,b,c]) (.int 1)=some b:=rfl
theorem Hv {a b c}:a8 (.tuple [a,b,c]) (.int 2)=some c:=rfl
theorem Hw {a b c d}:a8 (.tuple [a,b,c,d]) (.int 0)=some a:=rfl
theorem Hx {a b c d}:a8 (.tuple [a,b,c,d]) (.int 1)=some b:=rfl
theorem Hy {a b c d}:a8 (.tuple [a,b,c,d]) (.int 2)=some c:=rfl
theorem Hz {a b c d}:a8 (.tuple [a,b,c,d]) (.int 3)=some d:=rfl
theorem HA {a b c d e}:a8 (.tuple [a,b,c,d,e]) (.int 0)=some a:=rfl
theorem HB {a b c d e}:a8 (.tuple [a,b,c,d,e]) (.int 1)=some b:=rfl
theorem HC {a b c d e}:a8 (.tuple [a,b,c,d,e]) (.int 2)=some c:=rfl
theorem HD {a b c d e}:a8 (.tuple [a,b,c,d,e]) (.int 3)=some d:=rfl
theorem HE {a b c d e}:a8 (.tuple [a,b,c,d,e]) (.int 4)=some e:=rfl
local macro_rules (kind:=tacticWp_walkUsing_) | s=>return Ld s "HP HQ DA Iv Hg Dc Dr Dq GK xI om tu pJ wU ou oq G0 G1 G2 G3 G4 G5 G6 C0 C1 C2 C3 C4 C5 C6 C7 C8 tw tv yA yz ug uh ui uj xO xP xQ xR xS zK zL Du uR lL lN jr m2 lM p6 G9 H9 qV qW md nH me Iz u4 bk uG uF k9 zV wV zj zP qK lg zW wX tz wR pG tr tq kW rZ sd l5 ku xN qh oQ m8 xM uN uk xX xZ xY nv Dh yc xW xV kz qL qM nK qS qo qp nM qR jZ ml ky qQ qP tC tB pN tM tK tH tJ tE tF tD jo jn pO w9 gO qe qf nl nr nj m9 kl t6 kX Option.bind_some Option.bind_none Option.map_some Option.map_none List.set_cons_succ List.set_cons_zero List.getElem?_cons_succ List.getElem?_cons_zero List.map_cons List.map_nil List.cons_append List.nil_append List.append_nil Bool.and_true Bool.true_and Bool.and_self if_true if_false Bool.false_eq_true Bool.not_true Bool.not_false decide_true decide_false ki mV kh Ah nN Fb lQ nq uc and_self and_true true_and Hq Hr Hs Ht Hu Hv Hw Hx Hy Hz HA HB HC HD HE" "qO qN tw tv qH jo gO k9 kW List.append_nil Bool.and_true Bool.and_self if_true if_false Bool.false_eq_true decide_true decide_false id_eq ou oq lg oQ and_self and_true true_and sL eg vR vQ ki mV kh nN lQ nq uc"
noncomputable def sQ:Option (List Nat)->Bool->List Nat->List Nat
 | none,_,[]=>[]
 | some pend,_,[]=>pend
 | none,true,c::l=>c::sQ none false l
 | none,false,c::l=>if c=34 then sQ (some [34]) false l else c::sQ none (c==92) l
 | some pend,true,c::l=>sQ (some (pend++[c])) false l
 | some pend,false,c::l=>if c=34 then sQ none false l else sQ (some (pend++[c])) (c==92) l
theorem uV {v0}:sQ none v0 []=[]:=rfl
theorem uW {pend v0}:sQ (some pend) v0 []=pend:=rfl
theorem uX {c l}:sQ none true (c::l)=c::sQ none false l:=rfl
theorem nR {c l}:sQ none false (c::l)=(if c=34 then sQ (some [34]) false l else c::sQ none (c==92) l):=rfl
theorem uY {pend c l}:sQ (some pend) true (c::l)=sQ (some (pend++[c])) false l:=rfl
theorem q8 {pend c l}:sQ (some pend) false (c::l)=(if c=34 then sQ none false l else sQ (some (pend++[c])) (c==92) l):=rfl
noncomputable def uI:Option Nat->PV
 | none=> .none
 | some q=> .int q
theorem Dv:∀ (l:List Nat) (b:Bool),34∉l->sQ none b l=l:=by
 intro l
 induction l with
 | nil=>exact λb h=>rfl
 | cons c l ih=>
  intro b h
  have h2:=λb=>ih b λq=>h (List.mem_cons_of_mem _ q)
  cases b with
  | true=>exact congrArg (List.cons c) (h2 _)
  | false=>exact (if_neg λq:c=34=>h (by erw [q];exact .head _)).trans (congrArg (List.cons c) (h2 _))
theorem Fq:∀ (l:List Nat) (o:Option (List Nat)) (b:Bool),(sQ o b l).length<=(o.getD []).length + l.length:=by
 intro l
 induction l with
 | nil=>
  intro o b
  cases o with
  | none=>exact Nat.zero_le _
  | some p=>exact Nat.le_refl _
 | cons c l ih=>
  intro o b
  cases o with
  | none=>
   cases b with
   | true=>exact Nat.succ_le_succ (ih none false)
   | false=>
    show (if c=34 then _ else _:List Nat).length<=_
    by_cases hc:c=34
    ·rw [if_pos hc]
     exact Nat.le_trans (ih (some [34]) false) (by show 1 + l.length<=0 + (l.length+1);w_fin)
    ·rw [if_neg hc]
     exact Nat.succ_le_succ (ih none _)
  | some p=>
   have hp:∀ b,(sQ (some (p++[c])) b l).length<=p.length + (l.length+1):=λb=>by
    have:=ih (some (p++[c])) b
    erw [show (some (p++[c])).getD []=p++[c] from rfl,jt,List.length_singleton] at this
    w_fin
   cases b with
   | true=>exact hp _
   | false=>
    show (if c=34 then _ else _:List Nat).length<=p.length + (l.length+1)
    by_cases hc:c=34
    ·rw [if_pos hc]
     exact Nat.le_trans (ih none false) (by show 0 + l.length<=p.length + (l.length+1);w_fin)
    ·rw [if_neg hc]
     exact hp _
noncomputable def jE (L:List Nat) (s:Nat) (o:Option Nat) (r:List (List Nat)) (p:Nat) (u:List Nat):Nat×Option Nat×List (List Nat):=
 if u=[34] then (match o with
  | none=>(s,some p,r)
  | some q=>(p+1,none,if s=q then r else r++[(L.drop s).take (q - s)])) else (s,o,r)
noncomputable def iN (s:Nat) (pre:List Nat) (b:Bool) (m:List Nat):Option Nat->List Nat
 | none=>pre.drop s++sQ none b m
 | some q=>(pre.take q).drop s++sQ (some (pre.drop q)) b m
theorem cR {ftg fb x xs st st1 st2} (h1:ftg st x=some st1) (h2:fb st1=some (st2,.next)):d7 ftg fb (x::xs) st=d7 ftg fb xs st2:=by
 rw [rZ,h1,Option.bind_some,h2];rfl
noncomputable abbrev IT:FC:=aH 7 [] none
noncomputable def JB (H:Wf W):List PV->List SV->Option (List SV×Fl):=d7 (kA IT 4 5) (CN H).1
noncomputable def S7 (l:List Nat) (s:Nat) (o:Option Nat) (r:List (List Nat)) (x y:SV):List SV:=[.d (.str l),.d (.int s),.d (uI o),.own (.list (r.map .str)),x,y,.u,.u]
theorem GO (H) (l u) (p s:Nat) (o) (r) (hl:l.length<1000000) (hr:r.length<1000000):
  (CN H).1 (S7 l s o r (.d (.int p)) (.d (.str u)))=some (S7 l (jE l s o r p u).1 (jE l s o r p u).2.1 (jE l s o r p u).2.2 (.d (.int p)) (.d (.str u)),.next):=by
 unfold S7 jE
 by_cases hu:u=[34]
 ·rw [if_pos hu]
  subst hu
  cases o with
  | none=>wp_walk using CN,uI,beq_self_eq_true
  | some q=>
   by_cases hs:s=q
   ·subst hs
    wp_walk using CN,uI,beq_self_eq_true
    rfl
   ·have hs':((s:Int)==(q:Int))=false:=by simp;w_fin
    have hg:ei (ce l (some (s:Int)) (some (q:Int)) none)=some (.str ((l.drop s).take (q - s))):=by
     erw [iA];exact dg (by simp [be];omega)
    have hg2:b9 (r.map PV.str++[.str ((l.drop s).take (q - s))])=some (.list ((r++[(l.drop s).take (q - s)]).map .str)):=by
     rw [List.map_append];exact dC (by simp [be];w_fin)
    wp_walk using CN,uI,beq_self_eq_true,hs',hg,hg2,if_neg hs
    rfl
 ·rw [if_neg hu]
  have hu':(u==[34])=false:=by simpa using hu
  wp_walk using CN,hu'
theorem z6 (H) {l u us p s o r x y} (hl:l.length<1000000) (hr:r.length<1000000):
  JB H (bK (p,u)::us) (S7 l s o r x y)=JB H us (S7 l (jE l s o r p u).1 (jE l s o r p u).2.1 (jE l s o r p u).2.2 (.d (.int p)) (.d (.str u))):=
 cR rfl (GO H l u p s o r hl hr)
theorem pk {L s o r p u} (h:u≠[34]):jE L s o r p u=(s,o,r):=if_neg h
set_option tactic.hygienic true in
theorem JF (H) {l} (hL:l.length<1000000):∀ (m pre:List Nat) (b:Bool) (s:Nat) (o:Option Nat) (r:List (List Nat)) (x y:SV),l=pre++m->s<=o.getD pre.length->(∀ q,o=some q->q<pre.length)->(b=true->pre≠[])->r.length + m.length<1000000->
   ∃ (s':Nat) (o':Option Nat) (r':List (List Nat)) (x' y':SV),JB H ((ch pre.length b m).map bK) (S7 l s o r x y)=some (S7 l s' o' r' x' y',.next)/\s'<=l.length/\r'.length<1000000/\
    r'.flatten++l.drop s'=r.flatten++iN s pre b m o:=by
 intro m
 induction m with
 | nil=>
  intro pre b s o r x y hl hs ho hb hr
  rw [List.append_nil] at hl
  subst hl
  have hs':s<=l.length:=by
   cases o with
   | none=>exact hs
   | some q=>have:=ho q rfl;have:s<=q:=hs;w_fin
  have fin:r.flatten++l.drop s=r.flatten++iN s l b [] o:=by
   cases o with
   | none=>simp [iN,uV,uW,uX,nR,uY,q8]
   | some q=>
    have hsq:s<=q:=hs
    have:=ho q rfl
    simp only [iN,uV,uW,uX,nR,uY,q8]
    congr 1
    conv=>lhs;rw [<-List.take_append_drop q l]
    rw [List.drop_append_of_le_length (by simp;w_fin)]
  cases b with
  | false=>exact ⟨s,o,r,x,y,rfl,hs',by simpa using hr,fin⟩
  | true=>
   refine ⟨s,o,r,.d (.int (l.length - 1:Nat)),.d (.str [92]),?_,hs',by simpa using hr,fin⟩
   refine (z6 H (us:=[]) hL (by simpa using hr)).trans ?_
   rw [pk (by decide)];rfl
 | cons c m ih=>
  intro pre b s o r x y hl hs ho hb hr
  have hl':l=(pre++[c])++m:=by rw [hl];simp
  have hlen:(pre++[c]).length=pre.length+1:=by simp
  have hr1:r.length + m.length<1000000:=by simp at hr;w_fin
  have go:s<=o.getD (pre++[c]).length:=by
   cases o with
   | none=>have:s<=pre.length:=hs;show s<=(pre++[c]).length;w_fin
   | some q=>exact hs
  have ho':∀ q,o=some q->q<(pre++[c]).length:=λq e=>by have:=ho q e;w_fin
  have hsp:s<=pre.length:=by
   cases o with
   | none=>exact hs
   | some q=>have:=ho q rfl;have:s<=q:=hs;w_fin
  have keep:∀ b',(∀ pend,sQ (some pend) b (c::m)=sQ (some (pend++[c])) b' m)->sQ none b (c::m)=c::sQ none b' m->
    iN s (pre++[c]) b' m o=iN s pre b (c::m) o:=by
   intro b' h1 h2
   cases o with
   | none=>simp only [iN,h2];rw [List.drop_append_of_le_length hsp];simp
   | some q=>
    have:=ho q rfl
    simp only [iN,h1]
    rw [List.take_append_of_le_length (by w_fin),List.drop_append_of_le_length (by w_fin)]
  cases b with
  | true=>
   obtain ⟨s',o',r',x',y',h1,h2,h3,h4⟩:=ih (pre++[c]) false s o r (.d (.int pre.length)) (.d (.str [92,c])) hl' go ho' (λe=>by w_cond e) hr1
   refine ⟨s',o',r',x',y',(z6 H (us:=(ch (pre.length+1) false m).map bK) hL (by w_fin)).trans ?_,h2,h3,h4.trans (by erw [keep false (λU=>rfl) rfl])⟩
   rw [pk (by simp),<-hlen];exact h1
  | false=>
   by_cases hc:c=92
   ·subst hc
    obtain ⟨s',o',r',x',y',h1,h2,h3,h4⟩:=ih (pre++[92]) true s o r x y hl' go ho' (λU=>by simp) hr1
    refine ⟨s',o',r',x',y',?_,h2,h3,h4.trans (by erw [keep true (λU=>rfl) rfl])⟩
    rw [fT,if_pos rfl,<-hlen];exact h1
   ·have he:ch pre.length false (c::m)=(pre.length,[c])::ch (pre++[c]).length false m:=by rw [fT,if_neg hc,hlen]
    rw [he,List.map_cons,z6 H hL (by w_fin)]
    by_cases hq:c=34
    ·subst hq
     cases o with
     | none=>
      obtain ⟨s',o',r',x',y',h1,h2,h3,h4⟩:=ih (pre++[34]) false s (some pre.length) r (.d (.int pre.length)) (.d (.str [34])) hl' hsp (λq e=>by w_cond e;simp) (λe=>by w_cond e) hr1
      exact ⟨s',o',r',x',y',h1,h2,h3,h4.trans (by simp [iN,uV,uW,uX,nR,uY,q8])⟩
     | some q=>
      have hq1:=ho q rfl
      have hsq:s<=q:=hs
      erw [show jE l s (some q) r pre.length [34]=(pre.length+1,none,if s=q then r else r++[(l.drop s).take (q - s)]) from rfl]
      obtain ⟨s',o',r',x',y',h1,h2,h3,h4⟩:=ih (pre++[34]) false (pre.length+1) none (if s=q then r else r++[(l.drop s).take (q - s)]) (.d (.int pre.length)) (.d (.str [34])) hl' (by simp) (λq e=>by w_cond e) (λe=>by w_cond e) (by rw [List.length_cons] at hr;split <;> (try rw [jt,List.length_singleton]) <;> w_fin)
      refine ⟨s',o',r',x',y',h1,h2,h3,h4.trans ?_⟩
      have e1:(if s=q then r else r++[(l.drop s).take (q - s)]).flatten=r.flatten++(pre.take q).drop s:=by
       split
       ·rename_i e;subst e;simp
       ·rw [hl,List.drop_append_of_le_length hsp,List.take_append_of_le_length (by simp;w_fin),List.drop_take];simp
      erw [e1]
      simp [iN,uV,uW,uX,nR,uY,q8]
    ·rw [pk (by simpa using hq)]
     have hc':(c==92)=false:=by simpa using hc
     obtain ⟨s',o',r',x',y',h1,h2,h3,h4⟩:=ih (pre++[c]) false s o r (.d (.int pre.length)) (.d (.str [c])) hl' go ho' (λe=>by w_cond e) hr1
     exact ⟨s',o',r',x',y',h1,h2,h3,h4.trans (by erw [keep false (λpend=>by rw [q8,if_neg hq,hc']) (by rw [nR,if_neg hq,hc'])])⟩
theorem Ix (H) (l) (s) (o) (r) (x y) (hl:l.length<1000000) (hr:r.length<1000000) (hs:s<=l.length) (hlen:(r.flatten++l.drop s).length<=be):
  jX ((IK H).1 (S7 l s o r x y))=some (.d (.str (r.flatten++l.drop s))):=by
 unfold S7
 by_cases hs:s<l.length
 ·have hs1:decide ((s:Int)<(l.length:Int))=true:=by simpa using hs
  have hg:ei (ce l (some (s:Int)) none none)=some (.str (l.drop s)):=by
   rw [sZ];exact dg (by simp [be];w_fin)
  have hg2:b9 (r.map PV.str++[.str (l.drop s)])=some (.list ((r++[l.drop s]).map .str)):=by
   erw [List.map_append];exact dC (by simp [be];w_fin)
  have hg3:ei (r++[l.drop s]).flatten=some (.str (r.flatten++l.drop s)):=by
   rw [show (r++[l.drop s]).flatten=r.flatten++l.drop s by simp];exact dg hlen
  wp_walk using IK,hs1,hg,hg2,hg3
 ·have hs1:decide ((s:Int)<(l.length:Int))=false:=by simpa using hs
  have hg3:ei r.flatten=some (.str (r.flatten++l.drop s)):=by
   rw [List.drop_eq_nil_of_le (by w_fin),List.append_nil] at hlen ⊢;exact dg hlen
  wp_walk using IK,hs1,hg3
theorem rg (H) (l) (hl:l.length<1000000):a9 H [.str l]=some (.str (sQ none false l)):=by
 have e1:aY IT [0] [SV.d (PV.str l)] (bc IT)=some [.d (.str l),.u,.u,.u,.u,.u,.u,.u]:=by
  show some (cF _ _ _ _)=_
  rw [eh _ _ tb_g%]
  rfl
 unfold a9 bC
 rw [xy]
 simp only [D7,List.map_cons,List.map_nil,e1,Option.bind_some]
 by_cases h34:34∈l
 case neg=>
  wp_walk using h34
  rw [Dv l _ h34]
 obtain ⟨s',o',r',x',y',h1,h2,h3,h4⟩:=JF H hl l [] false 0 none [] .u .u rfl (Nat.zero_le _) (λq e=>by w_cond e) (λe=>by w_cond e) (by simpa using hl)
 have h1':d7 (kA IT 4 5) (CN H).1 ((ch 0 false l).map bK) [.d (.str l),.d (.int 0),.d .none,.own (.list []),.u,.u,.u,.u]=some (S7 l s' o' r' x' y',.next):=h1
 have h4':r'.flatten++l.drop s'=sQ none false l:=h4
 have h5:=Ix H l s' o' r' x' y' hl h3 h2 (by
  have:=Fq l none false
  rw [h4'];simp at this;simp [be];w_fin)
 rw [h4'] at h5
 wp_walk using h34,jV,h1',h5
noncomputable def cP:Nat->List (List Nat)->Bool
 | k,[]=>k==0
 | k,u::us=>if u=[40] then cP (k+1) us else if u=[41] then (match k with | 0=>false | k+1=>cP k us) else cP k us
theorem GS {k}:cP k []=(k==0):=rfl
theorem GT {k u us}:cP k (u::us)=(if u=[40] then cP (k+1) us else if u=[41] then (match k with | 0=>false | k+1=>cP k us) else cP k us):=rfl
noncomputable def mH (l:List Nat):List (List Nat):=(ch 0 false l).map (·.2)
theorem lC (H) (l) (hl:l.length<1000000):az H [.str l]=some (.bool (cP 0 (mH (sQ none false l)))):=by
 have e1:aY (aH 8 [] none) [0] [SV.d (PV.str l)] (bc (aH 8 [] none))=some [.d (.str l),.u,.u,.u,.u,.u]:=by
  show some (cF _ _ _ _)=_
  rw [eh _ _ tb_g%]
  rfl
 unfold az bC
 rw [xy]
 simp only [D8,List.map_cons,List.map_nil,e1,Option.bind_some]
 wp_walk using rg H l hl,jV
 unfold mH
 generalize sQ none false l=t
 generalize hgf:d7 (kA (aH 8 [] none) 2 3) _=gf
 have key:∀ (us:List (Nat×List Nat)) (k:Nat) (x y:SV),(∃ k' x' y',gf (us.map bK) [.d (.str t),.d (.int k),x,y,.u,.u]=some ([.d (.str t),.d (.int (k':Nat)),x',y',.u,.u],.next)/\(k'==0)=cP k (us.map (·.2)))∨
   (∃ st,gf (us.map bK) [.d (.str t),.d (.int k),x,y,.u,.u]=some (st,.ret (.d (.bool false)))/\cP k (us.map (·.2))=false):=by
  intro us
  induction us with
  | nil=>intro k x y;exact .inl ⟨k,x,y,by rw [<-hgf];rfl,rfl⟩
  | cons u us ih=>
   obtain ⟨p,u⟩:=u
   intro k x y
   by_cases h1:u=[40]
   ·subst h1
    have e:gf (List.map bK ((p,[40])::us)) [.d (.str t),.d (.int k),x,y,.u,.u]=gf (us.map bK) [.d (.str t),.d (.int (k+1:Nat)),.d (.int p),.d (.str [40]),.u,.u]:=by
     rw [<-hgf]
     unfold bK
     wp_walk using beq_self_eq_true
     rfl
    erw [e]
    exact ih (k+1) _ _
   ·have h1':(u==[40])=false:=by simpa using h1
    by_cases h2:u=[41]
    ·subst h2
     cases k with
     | zero=>
      refine .inr ⟨[.d (.str t),.d (.int (-1)),.d (.int p),.d (.str [41]),.u,.u],?_,rfl⟩
      rw [<-hgf]
      unfold bK
      wp_walk using beq_self_eq_true,h1'
      rfl
     | succ k=>
      have e:gf (List.map bK ((p,[41])::us)) [.d (.str t),.d (.int (k+1:Nat)),x,y,.u,.u]=gf (us.map bK) [.d (.str t),.d (.int k),.d (.int p),.d (.str [41]),.u,.u]:=by
       rw [<-hgf]
       unfold bK
       have hk:((k+1:Nat):Int) - 1=k:=by w_fin
       have hk':decide ((k:Int)<0)=false:=by simp
       wp_walk using beq_self_eq_true,h1',hk,hk'
      erw [e]
      exact ih k _ _
    ·have h2':(u==[41])=false:=by simpa using h2
     have e:gf (List.map bK ((p,u)::us)) [.d (.str t),.d (.int k),x,y,.u,.u]=gf (us.map bK) [.d (.str t),.d (.int k),.d (.int p),.d (.str u),.u,.u]:=by
      rw [<-hgf]
      unfold bK
      wp_walk using h1',h2'
     erw [e]
     have:=ih k (.d (.int p)) (.d (.str u))
     simp only [List.map_cons,GS,GT,if_neg h1,if_neg h2]
     exact this
 rcases key (ch 0 false t) 0 .u .u with ⟨k',x',y',h1,h2⟩ | ⟨st,h1,h2⟩
 ·have h1':gf ((ch 0 false t).map bK) [.d (.str t),.d (.int 0),.u,.u,.u,.u]=_:=h1
  erw [h1',<-h2]
  wp_walk
  congr 2
  rw [Bool.eq_iff_iff];simp
 ·have h1':gf ((ch 0 false t).map bK) [.d (.str t),.d (.int 0),.u,.u,.u,.u]=_:=h1
  erw [h1',h2]
  rfl
theorem kE {ft fb k s st}:CF ft fb (k+1) (s::st)=(ft (s::st)).bind λb=>if b then AO (CF ft fb k) (fb (s::st)) else some (s::st,.next):=rfl
theorem d9 {a b:Nat}:zl (.int ((a:Int) + (b:Int))) (.int 2)=some (.int (((a + b) / 2:Nat):Int)):=rfl
theorem ef {xs:List PV} {m:Nat} {d} (h:xs[m]? =some d):a8 (.list xs) (.int m)=some d:=by
 have e:kJ m xs.length=some m:=(if_pos (Int.natCast_nonneg m)).trans (if_pos (Int.ofNat_lt.mpr (List.getElem?_eq_some_iff.mp h).1))
 exact (congrArg (λo:Option Nat=>o.bind λi=>xs[i]?) e).trans h
noncomputable def iE (t:PV->Option Bool) (sw:Bool) (xs:List PV):Nat->Nat->Nat->Option Nat
 | 0,_,_=>none
 | k+1,lo,hi=>if Nat.blt lo hi then (xs[(lo + hi) / 2]?).bind λy=>(t y).bind λb=>if (b==sw)=true then iE t sw xs k lo ((lo + hi) / 2) else iE t sw xs k ((lo + hi) / 2+1) hi else some lo
theorem w6 {t sw xs k lo hi}:iE t sw xs (k+1) lo hi=if Nat.blt lo hi then (xs[(lo + hi) / 2]?).bind λy=>(t y).bind λb=>if (b==sw)=true then iE t sw xs k lo ((lo + hi) / 2) else iE t sw xs k ((lo + hi) / 2+1) hi else some lo:=rfl
theorem jm {gf:Nat->List SV->Option (List SV×Fl)} {S:Nat->Nat->SV->List SV} {t:PV->Option Bool} {sw:Bool} {xs:List PV} (s0:∀ n l h m,¬ l<h->gf (n+1) (S l h m)=some (S l h m,.next))
  (s1:∀ n l h m y b,l<h->xs[(l + h) / 2]? =some y->t y=some b->gf (n+1) (S l h m)=gf n (if (b==sw)=true then S l ((l + h) / 2) (.d (.int (((l + h) / 2:Nat):Int))) else S ((l + h) / 2+1) h (.d (.int (((l + h) / 2:Nat):Int))))) (n:Nat):∀ l h m k,iE t sw xs n l h=some k->∃ h' m',gf n (S l h m)=some (S k h' m',.next):=by
 induction n with
 | zero=>exact λl h m k q=>nS q
 | succ n ih=>
  intro l h m k q
  have q:=w6.symm.trans q
  by_cases hlt:l<h
  ·rw [if_pos (Nat.blt_eq.mpr hlt)] at q
   obtain ⟨y,hy,q⟩:=ah q
   obtain ⟨b,hb,q⟩:=ah q
   rw [s1 n l h m y b hlt hy hb]
   by_cases hc:(b==sw)=true
   ·rw [if_pos hc] at q ⊢;exact ih _ _ _ _ q
   ·rw [if_neg hc] at q ⊢;exact ih _ _ _ _ q
  ·rw [if_neg λw=>hlt (Nat.blt_eq.mp w)] at q
   obtain rfl:=sI q
   exact ⟨h,m,s0 n l h m hlt⟩
noncomputable def oX:SV->PV->Option PV
 | .fn f,y=>(f [y]).bind λr=>if r.flat then some r else none
 | .d d,y=>if d.flat then (match d with | .none=>some y | _=>none) else none
 | _,_=>none
noncomputable def lY:SV->Bool
 | .fn _=>true
 | .d d=>d.flat&&(match d with | .none=>true | _=>false)
 | _=>false
noncomputable def eU (key:SV) (x y:PV):Option Bool:=(oX key y).bind λr=>mM x r
noncomputable def eT (key:SV) (x y:PV):Option Bool:=(oX key y).bind λr=>mM r x
noncomputable def JC (n:Nat):PV->Option Nat
 | .none=>some n
 | .int h=>if 0<=h then some h.toNat else none
 | _=>none
theorem kY {n h k} (q:JC n h=some k):(h= .none/\k=n)∨h= .int k:=by
 cases h with
 | none=>exact .inl ⟨rfl,(sI q).symm⟩
 | int i=>
  obtain ⟨h1,q⟩:=bI q
  obtain rfl:=sI q
  exact .inr (by rw [Int.toNat_of_nonneg h1])
 | _=>exact nS q
noncomputable def fy (t:SV->PV->PV->Option Bool) (sw:Bool) (ds:List PV) (key:SV):Option PV:=match ds with
 | [a,x,l,h]=>(pA a).bind λxs=>(fG l).bind λlo=>(JC xs.length h).bind λhi=>if (decide (0<=lo)&&lY key)=true then (iE (t key x) sw xs 8 lo.toNat hi).map λk=> .int (k:Nat) else none
 | _=>none
theorem lz {t sw ds key r} (q:fy t sw ds key=some r):∃ xs x lo h hi k,ds=[.list xs,x,.int (lo:Nat),h]/\JC xs.length h=some hi/\lY key=true/\iE (t key x) sw xs 8 lo hi=some k/\r= .int (k:Nat):=by
 rcases ds with _ | ⟨a,_ | ⟨x,_ | ⟨l,_ | ⟨h,_ | ⟨e,ds⟩⟩⟩⟩⟩ <;> try exact nS q
 obtain ⟨xs,h1,q⟩:=ah q
 obtain ⟨lo,h2,q⟩:=ah q
 obtain ⟨hi,h3,q⟩:=ah q
 obtain ⟨h4,q⟩:=bI q
 obtain ⟨k,h5,rfl⟩:=(aA q:_)
 rw [Bool.and_eq_true,decide_eq_true_eq] at h4
 refine ⟨xs,x,lo.toNat,h,hi,k,?_,h3,h4.2,h5,rfl⟩
 rw [cO h1,aJ h2,Int.toNat_of_nonneg h4.1]
theorem dQ {key} (q:lY key=true):(∃ f,key= .fn f)∨key= .d .none:=by
 cases key with
 | fn f=>exact .inl ⟨f,rfl⟩
 | d d=>cases d <;> first | exact .inr rfl | w_cond q
 | _=>w_cond q
theorem Da {k key} (hk:lY key=true) (hl:dK (aH k [] none) 0=true/\dK (aH k [] none) 1=true/\dK (aH k [] none) 2=true/\dK (aH k [] none) 3=true/\dK (aH k [] none) 4=true) {u a x l h}:aY (aH k [] none) [0,1,2,3,4] [.d a,.d x,.d l,.d h,key] u=some (((((u.set 0 (.d a)).set 1 (.d x)).set 2 (.d l)).set 3 (.d h)).set 4 key):=by
 have hs:v6 (aH k [] none) 4 key=true:=by
  rcases dQ hk with ⟨f,rfl⟩ | rfl
  ·exact hl.2.2.2.2
  ·rfl
 show (if v6 (aH k [] none) 4 key then some (cF _ (cF _ (cF _ (cF _ (cF _ _ _ _) _ _) _ _) _ _) _ _) else none)=_
 rw [if_pos hs]
 rw [eh _ _ hl.1,eh _ _ hl.2.1,eh _ _ hl.2.2.1,eh _ _ hl.2.2.2.1,eh _ _ hl.2.2.2.2]
theorem dR {f}:oV (.fn f)=some false:=rfl
theorem cS:oV (.d .none)=some true:=rfl
theorem E8 (H) {xs x l h m y b} (hy:xs[(l + h) / 2]? =some y) (ht:eU (.d .none) x y=some b):(IG H).1 [.d (.list xs),.d x,.d (.int (l:Nat)),.d (.int (h:Nat)),.d .none,m,.u,.u]=
  some (if (b==true)=true then [.d (.list xs),.d x,.d (.int (l:Nat)),.d (.int (((l + h) / 2:Nat):Int)),.d .none,.d (.int (((l + h) / 2:Nat):Int)),.u,.u] else [.d (.list xs),.d x,.d (.int (((l + h) / 2+1:Nat):Int)),.d (.int (h:Nat)),.d .none,.d (.int (((l + h) / 2:Nat):Int)),.u,.u],.next):=by
 have hit:=ef hy
 have h2:mM x y=some b:=ht
 simp only [IG]
 cases b with
 | true=>wp_walk using d9,hit,h2,Int.natCast_add,Int.cast_ofNat_Int,beq_self_eq_true,show (true==false)=false from rfl,show (false==true)=false from rfl
 | false=>wp_walk using d9,hit,h2,Int.natCast_add,Int.cast_ofNat_Int,beq_self_eq_true,show (true==false)=false from rfl,show (false==true)=false from rfl
theorem E7 (H) {xs x l h k} (hb:iE (eU (.d .none) x) true xs 8 l h=some k):∃ h' m',(Jg H).1 [.d (.list xs),.d x,.d (.int (l:Nat)),.d (.int (h:Nat)),.d .none,.u,.u,.u]=some ([.d (.list xs),.d x,.d (.int (k:Nat)),.d (.int (h':Nat)),.d .none,m',.u,.u],.next):=by
 have hd:∀ {l h:Nat},l<h->decide ((l:Int)<(h:Int))=true:=λq=>decide_eq_true (Int.ofNat_lt.mpr q)
 have hn:∀ {l h:Nat},¬ l<h->decide ((l:Int)<(h:Int))=false:=λq=>decide_eq_false λw=>q (Int.ofNat_lt.mp w)
 simp only [Jg]
 generalize hgf:CF _ (IG H).1=gf
 obtain ⟨h',m',e⟩:=jm (gf:=gf) (S:=λl h m=>[.d (.list xs),.d x,.d (.int (l:Nat)),.d (.int (h:Nat)),.d .none,m,.u,.u]) (λn l h m hlt=>by
   rw [<-hgf]
   wp_walk using kE,hn hlt) (λn l h m y b hlt hy ht=>by
   rw [<-hgf,kE]
   wp_walk using hd hlt,E8 H hy ht) 8 l h .u k hb
 exact ⟨h',m',by wp_walk using e⟩
theorem E9 (H) {f:List PV->Option PV} {xs x l h m y b} (hy:xs[(l + h) / 2]? =some y) (ht:eU (.fn f) x y=some b):(IH H).1 [.d (.list xs),.d x,.d (.int (l:Nat)),.d (.int (h:Nat)),.fn f,m,.u,.u]=
  some (if (b==true)=true then [.d (.list xs),.d x,.d (.int (l:Nat)),.d (.int (((l + h) / 2:Nat):Int)),.fn f,.d (.int (((l + h) / 2:Nat):Int)),.u,.u] else [.d (.list xs),.d x,.d (.int (((l + h) / 2+1:Nat):Int)),.d (.int (h:Nat)),.fn f,.d (.int (((l + h) / 2:Nat):Int)),.u,.u],.next):=by
 have hit:=ef hy
 obtain ⟨r,h1,h2⟩:=(ah ht:_)
 obtain ⟨r',h3,h4⟩:=(ah h1:_)
 obtain ⟨h5,h6⟩:=bI h4
 obtain rfl:=sI h6
 simp only [IH]
 cases b with
 | true=>wp_walk using d9,hit,h3,h5,h2,Int.natCast_add,Int.cast_ofNat_Int,beq_self_eq_true,show (true==false)=false from rfl,show (false==true)=false from rfl
 | false=>wp_walk using d9,hit,h3,h5,h2,Int.natCast_add,Int.cast_ofNat_Int,beq_self_eq_true,show (true==false)=false from rfl,show (false==true)=false from rfl
theorem E6 (H) {f:List PV->Option PV} {xs x l h k} (hb:iE (eU (.fn f) x) true xs 8 l h=some k):∃ h' m',(Jf H).1 [.d (.list xs),.d x,.d (.int (l:Nat)),.d (.int (h:Nat)),.fn f,.u,.u,.u]=some ([.d (.list xs),.d x,.d (.int (k:Nat)),.d (.int (h':Nat)),.fn f,m',.u,.u],.next):=by
 have hd:∀ {l h:Nat},l<h->decide ((l:Int)<(h:Int))=true:=λq=>decide_eq_true (Int.ofNat_lt.mpr q)
 have hn:∀ {l h:Nat},¬ l<h->decide ((l:Int)<(h:Int))=false:=λq=>decide_eq_false λw=>q (Int.ofNat_lt.mp w)
 simp only [Jf]
 generalize hgf:CF _ (IH H).1=gf
 obtain ⟨h',m',e⟩:=jm (gf:=gf) (S:=λl h m=>[.d (.list xs),.d x,.d (.int (l:Nat)),.d (.int (h:Nat)),.fn f,m,.u,.u]) (λn l h m hlt=>by
   rw [<-hgf]
   wp_walk using kE,hn hlt) (λn l h m y b hlt hy ht=>by
   rw [<-hgf,kE]
   wp_walk using hd hlt,E9 H hy ht) 8 l h .u k hb
 exact ⟨h',m',by wp_walk using e⟩
theorem ig (H) {ds key r} (q:fy eU true ds key=some r):dy (bC (aH 2 [] none) [0,1,2,3,4] (D2 H).1 (ds.map .d++[key]))=some r:=by
 obtain ⟨xs,x,lo,hp,hi,k,rfl,hh,hk,hb,rfl⟩:=lz q
 have e1:=Da (k:=2) (u:=bc (aH 2 [] none)) (a:= .list xs) (x:=x) (l:= .int lo) (h:=hp) hk tb_g%
 have e2:((((((bc (aH 2 [] none)).set 0 (.d (.list xs))).set 1 (.d x)).set 2 (.d (.int lo))).set 3 (.d hp)).set 4 key)=[.d (.list xs),.d x,.d (.int lo),.d hp,key,.u,.u,.u]:=by rfl
 rw [e2] at e1
 unfold bC
 show dy ((aY (aH 2 [] none) [0,1,2,3,4] [.d (.list xs),.d x,.d (.int lo),.d hp,key] (bc (aH 2 [] none))).bind _)=_
 rw [e1]
 have hlo:decide ((lo:Int)<0)=false:=by simp
 simp only [D2,Option.bind_some]
 rcases dQ hk with ⟨f,rfl⟩ | rfl
 ·obtain ⟨h',m',e⟩:=E6 H hb
  rcases kY hh with ⟨rfl,rfl⟩ | rfl
  ·wp_walk using hlo,e,dR
  ·wp_walk using hlo,e,dR
 ·obtain ⟨h',m',e⟩:=E7 H hb
  rcases kY hh with ⟨rfl,rfl⟩ | rfl
  ·wp_walk using hlo,e,cS
  ·wp_walk using hlo,e,cS
theorem EH (H) {xs x l h m y b} (hy:xs[(l + h) / 2]? =some y) (ht:eT (.d .none) x y=some b):(II H).1 [.d (.list xs),.d x,.d (.int (l:Nat)),.d (.int (h:Nat)),.d .none,m,.u,.u]=
  some (if (b==false)=true then [.d (.list xs),.d x,.d (.int (l:Nat)),.d (.int (((l + h) / 2:Nat):Int)),.d .none,.d (.int (((l + h) / 2:Nat):Int)),.u,.u] else [.d (.list xs),.d x,.d (.int (((l + h) / 2+1:Nat):Int)),.d (.int (h:Nat)),.d .none,.d (.int (((l + h) / 2:Nat):Int)),.u,.u],.next):=by
 have hit:=ef hy
 have h2:mM y x=some b:=ht
 simp only [II]
 cases b with
 | true=>wp_walk using d9,hit,h2,Int.natCast_add,Int.cast_ofNat_Int,beq_self_eq_true,show (true==false)=false from rfl,show (false==true)=false from rfl
 | false=>wp_walk using d9,hit,h2,Int.natCast_add,Int.cast_ofNat_Int,beq_self_eq_true,show (true==false)=false from rfl,show (false==true)=false from rfl
theorem EG (H) {xs x l h k} (hb:iE (eT (.d .none) x) false xs 8 l h=some k):∃ h' m',(Ji H).1 [.d (.list xs),.d x,.d (.int (l:Nat)),.d (.int (h:Nat)),.d .none,.u,.u,.u]=some ([.d (.list xs),.d x,.d (.int (k:Nat)),.d (.int (h':Nat)),.d .none,m',.u,.u],.next):=by
 have hd:∀ {l h:Nat},l<h->decide ((l:Int)<(h:Int))=true:=λq=>decide_eq_true (Int.ofNat_lt.mpr q)
 have hn:∀ {l h:Nat},¬ l<h->decide ((l:Int)<(h:Int))=false:=λq=>decide_eq_false λw=>q (Int.ofNat_lt.mp w)
 simp only [Ji]
 generalize hgf:CF _ (II H).1=gf
 obtain ⟨h',m',e⟩:=jm (gf:=gf) (S:=λl h m=>[.d (.list xs),.d x,.d (.int (l:Nat)),.d (.int (h:Nat)),.d .none,m,.u,.u]) (λn l h m hlt=>by
   rw [<-hgf]
   wp_walk using kE,hn hlt) (λn l h m y b hlt hy ht=>by
   rw [<-hgf,kE]
   wp_walk using hd hlt,EH H hy ht) 8 l h .u k hb
 exact ⟨h',m',by wp_walk using e⟩
theorem EI (H) {f:List PV->Option PV} {xs x l h m y b} (hy:xs[(l + h) / 2]? =some y) (ht:eT (.fn f) x y=some b):(IJ H).1 [.d (.list xs),.d x,.d (.int (l:Nat)),.d (.int (h:Nat)),.fn f,m,.u,.u]=
  some (if (b==false)=true then [.d (.list xs),.d x,.d (.int (l:Nat)),.d (.int (((l + h) / 2:Nat):Int)),.fn f,.d (.int (((l + h) / 2:Nat):Int)),.u,.u] else [.d (.list xs),.d x,.d (.int (((l + h) / 2+1:Nat):Int)),.d (.int (h:Nat)),.fn f,.d (.int (((l + h) / 2:Nat):Int)),.u,.u],.next):=by
 have hit:=ef hy
 obtain ⟨r,h1,h2⟩:=(ah ht:_)
 obtain ⟨r',h3,h4⟩:=(ah h1:_)
 obtain ⟨h5,h6⟩:=bI h4
 obtain rfl:=sI h6
 simp only [IJ]
 cases b with
 | true=>wp_walk using d9,hit,h3,h5,h2,Int.natCast_add,Int.cast_ofNat_Int,beq_self_eq_true,show (true==false)=false from rfl,show (false==true)=false from rfl
 | false=>wp_walk using d9,hit,h3,h5,h2,Int.natCast_add,Int.cast_ofNat_Int,beq_self_eq_true,show (true==false)=false from rfl,show (false==true)=false from rfl
theorem EE (H) {f:List PV->Option PV} {xs x l h k} (hb:iE (eT (.fn f) x) false xs 8 l h=some k):∃ h' m',(Jh H).1 [.d (.list xs),.d x,.d (.int (l:Nat)),.d (.int (h:Nat)),.fn f,.u,.u,.u]=some ([.d (.list xs),.d x,.d (.int (k:Nat)),.d (.int (h':Nat)),.fn f,m',.u,.u],.next):=by
 have hd:∀ {l h:Nat},l<h->decide ((l:Int)<(h:Int))=true:=λq=>decide_eq_true (Int.ofNat_lt.mpr q)
 have hn:∀ {l h:Nat},¬ l<h->decide ((l:Int)<(h:Int))=false:=λq=>decide_eq_false λw=>q (Int.ofNat_lt.mp w)
 simp only [Jh]
 generalize hgf:CF _ (IJ H).1=gf
 obtain ⟨h',m',e⟩:=jm (gf:=gf) (S:=λl h m=>[.d (.list xs),.d x,.d (.int (l:Nat)),.d (.int (h:Nat)),.fn f,m,.u,.u]) (λn l h m hlt=>by
   rw [<-hgf]
   wp_walk using kE,hn hlt) (λn l h m y b hlt hy ht=>by
   rw [<-hgf,kE]
   wp_walk using hd hlt,EI H hy ht) 8 l h .u k hb
 exact ⟨h',m',by wp_walk using e⟩
theorem jl (H) {ds key r} (q:fy eT false ds key=some r):dy (bC (aH 4 [] none) [0,1,2,3,4] (D4 H).1 (ds.map .d++[key]))=some r:=by
 obtain ⟨xs,x,lo,hp,hi,k,rfl,hh,hk,hb,rfl⟩:=lz q
 have e1:=Da (k:=4) (u:=bc (aH 4 [] none)) (a:= .list xs) (x:=x) (l:= .int lo) (h:=hp) hk tb_g%
 have e2:((((((bc (aH 4 [] none)).set 0 (.d (.list xs))).set 1 (.d x)).set 2 (.d (.int lo))).set 3 (.d hp)).set 4 key)=[.d (.list xs),.d x,.d (.int lo),.d hp,key,.u,.u,.u]:=by rfl
 rw [e2] at e1
 unfold bC
 show dy ((aY (aH 4 [] none) [0,1,2,3,4] [.d (.list xs),.d x,.d (.int lo),.d hp,key] (bc (aH 4 [] none))).bind _)=_
 rw [e1]
 have hlo:decide ((lo:Int)<0)=false:=by simp
 simp only [D4,Option.bind_some]
 rcases dQ hk with ⟨f,rfl⟩ | rfl
 ·obtain ⟨h',m',e⟩:=EE H hb
  rcases kY hh with ⟨rfl,rfl⟩ | rfl
  ·wp_walk using hlo,e,dR
  ·wp_walk using hlo,e,dR
 ·obtain ⟨h',m',e⟩:=EG H hb
  rcases kY hh with ⟨rfl,rfl⟩ | rfl
  ·wp_walk using hlo,e,cS
  ·wp_walk using hlo,e,cS
noncomputable abbrev cQ:Cl:=⟨95,"comp_select_list"⟩
noncomputable def m7:FC:=⟨(dp (gH 1 (bN 10))).names,[],none,_,rfl⟩
theorem Wf.self (H:Wf W) {n:Nat} {fc:FC} {y attr:Str} {p pos:Pos} (i:Nat) (hy:bv fc y i=true) (ha:attr=("comp_select_list":Str)):
  SE W n fc (.Attribute (.Name y p) attr pos) (λst=>(qF cQ (rd st i)).bind λd=>if d.flat=false then some (.d d) else none):=by
 obtain ⟨mN,K,_⟩:=H.K
 exact DJ i K hy ha
noncomputable def Ay (H:Wf W):{ f // SS W 5 m7 (pM (gH 1 (bN 10))) f }:=⟨_,
(
 af (el (cZ (H.self 0 tb_g% rfl)) (cz 3 4 tb_g% tb_g%) (af (am 5 tb_g% (au (ac 1 tb_g%) (ac 3 tb_g%)))
 (af (am 6 tb_g% (au (ac 2 tb_g%) (ac 3 tb_g%)))
 (af (cN (aC jP (ac 5 tb_g%) (ac 6 tb_g%)) (af (b8 (dB (ac 4 tb_g%)))
 ak) ak)
 (af (cN (aC AX (ac 5 tb_g%) (ac 6 tb_g%)) (af (b8 (ac 4 tb_g%))
 ak) ak)
 ak)))))
 (af (b8 ai)
 ak))⟩
noncomputable def fQ (H:Wf W) (d:PV) (ds:List PV):Option PV:=dy (bC m7 [0,1,2] (Ay H).1 (.obj cQ d::ds.map .d))
theorem sC:typeLookup (.type "object") "compare"=pure none:=by rw [typeLookup_type,builtinLookup_eq_fast];kernel_rfl
theorem Wf.new (H:Wf W) {n:Nat} {fc:FC} {y:Str} {p pos:Pos} {e:Expr} {fe:List SV->Option SV} (hg:cG W fc y 95) (he:SE W n fc e fe)
  (hst:∀ env,starEach [e] env=(false,eval e env)::starEach [] env:=by w_left):SE W n fc (.Call (.Name y p) [e] [] pos) (λst=>(de fe st).map (.obj cQ)):=by
 obtain ⟨mN,K,h85,_⟩:=H.K
 obtain ⟨m,tok,h1,h2⟩:=id H.i1
 exact F8 (self:="self") (par:="comp_select_list") K hg h85 h1 rfl rfl h2 (by rfl) (λv x=>by rfl) (show (dp (gH 0 (bN 10))).kind= .function by decide +kernel) (show (dp (gH 0 (bN 10))).isCoroutine=false by decide +kernel) (show (dp (gH 0 (bN 10))).isGenerator=false by decide +kernel) (show ∀ x∈(dp (gH 0 (bN 10))).names,x.2≠ .cell by decide +kernel) (show (dp (gH 0 (bN 10))).names.lookup ("self":Str)=some NameKind.local by decide +kernel) (show (dp (gH 0 (bN 10))).names.lookup ("comp_select_list":Str)=some NameKind.local by decide +kernel) (by decide) (by decide) (by decide) he hst
theorem CB {d:PV}:Ie (.d d)=some (.d d):=rfl
theorem IC {f:List PV->Option PV}:Ie (.fn f)=some (.fn f):=rfl
theorem CC {w:Value} {d:PV}:Ie (.ptr w d)=some (.ptr w d):=rfl
theorem IB {f:List PV->Option PV}:EP (.fn f)=some (.fn f):=rfl
theorem vg {d:PV}:dy (some (.d d))=some d:=rfl
theorem IA {f:List PV->Option PV}:Df (some (.fn f))=some f:=rfl
theorem vh {w:Value} {d:PV}:E4 (some (.ptr w d))=some (w,d):=rfl
noncomputable def dG:List Stmt->Stmt
 | x::_=>x
 | []=> .Pass default
noncomputable def kj (t:SV->PV->PV->Option Bool) (sw:Bool) (fa:List SV->Option (List PV)) (fk:List SV->Option SV) (dv:List PV) (st:List SV):Option SV:=(fa st).bind λds=>(ve fk st).bind λkv=>(fy t sw (ds++dv) kv).map .d
theorem jp {fc fc':FC} {ix:List Nat} {fb:List SV->Option (List SV×Fl)} {fa:List SV->Option (List PV)} {fk:List SV->Option SV} {dv:List PV} {t sw} (hb:∀ {ds key r},fy t sw ds key=some r->dy (bC fc' ix fb (ds.map .d++[key]))=some r):∀ st sv,kj t sw fa fk dv st=some sv->xe fc fc' ix fb fa fk (dv.map .d) st=some sv:=λst sv h=>by
 obtain ⟨ds,h1,h2⟩:=(ah h:_)
 obtain ⟨kv,h3,h4⟩:=(ah h2:_)
 obtain ⟨r,h5,rfl⟩:=(aA h4:_)
 have e:=hb h5
 rw [List.map_append,kr] at e
 unfold xe
 rw [h1,Option.bind_some,h3,Option.bind_some,e]
 rfl
theorem wZ {t sw ds dv key r} {n:Nat} (h:fy t sw (ds++dv) key=some r) (hd:n + dv.length=4):ds.length=n:=by
 obtain ⟨xs,x,lo,hp,hi,k,e,_⟩:=lz h
 have:=congrArg List.length e
 rw [jt] at this
 exact Nat.add_right_cancel (this.trans hd.symm)
theorem oO {fc':FC} {ix:List Nat} {fb:List SV->Option (List SV×Fl)} {dv:List PV} {t sw} {n:Nat} (hb:∀ {ds key r},fy t sw ds key=some r->dy (bC fc' ix fb (ds.map .d++[key]))=some r) (hd:n + dv.length=4):∀ ds r,fy t sw (ds++dv) (.d .none)=some r->(if ds.length=n then dy (bC fc' ix fb (ds.map .d++(dv.map .d++[.d .none]))) else none)=some r:=λds r h=>by
 have e:=hb h
 rw [List.map_append,kr] at e
 rw [if_pos (wZ h hd),e]
noncomputable def ba (t:SV->PV->PV->Option Bool) (sw:Bool) (key:SV) (xs:List PV) (dx:PV):Option Nat:=(oX key dx).bind λr=>if lY key then (iE (t key r) sw xs 8 0 xs.length).bind λk=>if (Nat.ble k xs.length&&Nat.blt xs.length 1000)=true then some k else none else none
theorem nP {t sw key xs dx k} (h:ba t sw key xs dx=some k):k<=xs.length/\xs.length<be/\lY key=true/\∃ r,oX key dx=some r/\fy t sw [.list xs,r,.int 0,.none] key=some (.int (k:Nat)):=by
 obtain ⟨r,h1,h2⟩:=(ah h:_)
 obtain ⟨h3,h4⟩:=bI h2
 obtain ⟨k',h5,h6⟩:=(ah h4:_)
 obtain ⟨h7,h8⟩:=bI h6
 obtain rfl:=sI h8
 rw [Bool.and_eq_true] at h7
 refine ⟨Nat.le_of_ble_eq_true h7.1,Nat.lt_trans (Nat.blt_eq.mp h7.2) (by decide),h3,r,h1,?_⟩
 show (if (decide (0<=(0:Int))&&lY key)=true then (iE (t key r) sw xs 8 (0:Int).toNat xs.length).map λk=>PV.int (k:Nat) else none)=_
 rw [h3,if_pos (by decide)]
 exact congrArg (Option.map λk:Nat=>PV.int (k:Nat)) h5
theorem Wf.k2_bisect_right (H:Wf W) {n:Nat} {fc:FC} {y:Str} {p pos kp:Pos} {e ek:Expr} {es:List Expr} {fa:List SV->Option (List PV)} {fk:List SV->Option SV} (hg:cG W fc y 32) (ha:gb W n fc (e::es) fa) (hka:SE W n fc ek fk) (hk:11<=n) (hlen:∀ st ds,fa st=some ds->ds.length=2)
  (he:∀ env,starEach (e::es) env=(false,eval e env)::starEach es env:=by w_left):SE W n fc (.Call (.Name y p) (e::es) [⟨some "key",ek,kp⟩] pos) (kj eU true fa fk [.int 0,.none]):=by
 obtain ⟨m,tok0,F⟩:=H.f2.at tb_g%
 obtain ⟨tok,ht⟩:=H.d 24 (by decide)
 exact SE.mono (kO (names:=["a","x","lo","hi","key"]) (dvs:=[.int 0 tok,.none]) 10 2 hg F rfl tb_g% tb_g% (D2 H).2 hk (λs pvs kv g h=>by
  obtain ⟨a,b,rfl⟩:=yL h
  exact oB (by rfl) rfl (g.top _ _ ht) _ _ _) rfl (λh μ ν=>aS.cons (sv:= .d (.int 0)) (Data.int 0 tok) (aS.cons (sv:= .d .none) Data.none aS.nil)) ha hka he hlen) (jp (dv:=[.int 0,.none]) (ig H))
theorem HX (H:Wf W):gJ W 11 (λvs=>call (.ref 32) vs) (λds=>fy eU true (ds++[.int 0,.none]) (.d .none)):=by
 obtain ⟨m,tok0,F⟩:=H.f2.at tb_g%
 obtain ⟨tok,ht⟩:=H.d 24 (by decide)
 obtain ⟨mk,hn,hm⟩:=H.kd 25 (by decide)
 exact gJ.mono (kS (np:=2) (names:=["a","x","lo","hi","key"]) (dvs:=[.int 0 tok,.none,.none]) F rfl tb_g% tb_g% (D2 H).2 (λs pvs g h=>by
  obtain ⟨a,b,rfl⟩:=yL h
  exact mU (by rfl) rfl rfl (g.top _ _ ht) (hn.keeps g.top) hm _ _) rfl (λh μ ν=>aS.cons (sv:= .d (.int 0)) (Data.int 0 tok) (aS.cons (sv:= .d .none) Data.none (aS.cons (sv:= .d .none) Data.none aS.nil)))) (oO (dv:=[.int 0,.none]) (ig H) rfl)
theorem Wf.c2_bisect_right (H:Wf W) {n:Nat} {fc:FC} {y:Str} {p pos:Pos} {e:Expr} {es:List Expr} {fa:List SV->Option (List PV)} (hg:cG W fc y 32) (ha:gb W n fc (e::es) fa) (hk:11<=n)
  (he:∀ env,starEach (e::es) env=(false,eval e env)::starEach es env:=by w_left):SE W n fc (.Call (.Name y p) (e::es) [] pos) (λst=>(fa st).bind λds=>(fy eU true (ds++[.int 0,.none]) (.d .none)).map .d):=by
 obtain ⟨m,tok,h1,h2⟩:=H.f2
 exact cE 11 hg h1 rfl (HX H) ha hk he
theorem Wf.k4_bisect_right (H:Wf W) {n:Nat} {fc:FC} {y:Str} {p pos kp:Pos} {e ek:Expr} {es:List Expr} {fa:List SV->Option (List PV)} {fk:List SV->Option SV} (hg:cG W fc y 32) (ha:gb W n fc (e::es) fa) (hka:SE W n fc ek fk) (hk:11<=n) (hlen:∀ st ds,fa st=some ds->ds.length=4)
  (he:∀ env,starEach (e::es) env=(false,eval e env)::starEach es env:=by w_left):SE W n fc (.Call (.Name y p) (e::es) [⟨some "key",ek,kp⟩] pos) (kj eU true fa fk []):=by
 obtain ⟨m,tok0,F⟩:=H.f2.at tb_g%
 obtain ⟨tok,ht⟩:=H.d 24 (by decide)
 exact SE.mono (kO (names:=["a","x","lo","hi","key"]) (dvs:=[]) 10 4 hg F rfl tb_g% tb_g% (D2 H).2 hk (λs pvs kv g h=>by
  obtain ⟨a,b,c,d,rfl⟩:=HJ h
  exact rN (by rfl) rfl (g.top _ _ ht) _ _ _ _ _) rfl (λh μ ν=>aS.nil) ha hka he hlen) (jp (dv:=[]) (ig H))
theorem HY (H:Wf W):gJ W 11 (λvs=>call (.ref 32) vs) (λds=>fy eU true (ds++[]) (.d .none)):=by
 obtain ⟨m,tok0,F⟩:=H.f2.at tb_g%
 obtain ⟨tok,ht⟩:=H.d 24 (by decide)
 obtain ⟨mk,hn,hm⟩:=H.kd 25 (by decide)
 exact gJ.mono (kS (np:=4) (names:=["a","x","lo","hi","key"]) (dvs:=[.none]) F rfl tb_g% tb_g% (D2 H).2 (λs pvs g h=>by
  obtain ⟨a,b,c,d,rfl⟩:=HJ h
  exact CV (by rfl) rfl rfl (g.top _ _ ht) (hn.keeps g.top) hm _ _ _ _) rfl (λh μ ν=>aS.cons (sv:= .d .none) Data.none aS.nil)) (oO (dv:=[]) (ig H) rfl)
theorem Wf.c4_bisect_right (H:Wf W) {n:Nat} {fc:FC} {y:Str} {p pos:Pos} {e:Expr} {es:List Expr} {fa:List SV->Option (List PV)} (hg:cG W fc y 32) (ha:gb W n fc (e::es) fa) (hk:11<=n)
  (he:∀ env,starEach (e::es) env=(false,eval e env)::starEach es env:=by w_left):SE W n fc (.Call (.Name y p) (e::es) [] pos) (λst=>(fa st).bind λds=>(fy eU true (ds++[]) (.d .none)).map .d):=by
 obtain ⟨m,tok,h1,h2⟩:=H.f2
 exact cE 11 hg h1 rfl (HY H) ha hk he
theorem Wf.k2_bisect_left (H:Wf W) {n:Nat} {fc:FC} {y:Str} {p pos kp:Pos} {e ek:Expr} {es:List Expr} {fa:List SV->Option (List PV)} {fk:List SV->Option SV} (hg:cG W fc y 50) (ha:gb W n fc (e::es) fa) (hka:SE W n fc ek fk) (hk:11<=n) (hlen:∀ st ds,fa st=some ds->ds.length=2)
  (he:∀ env,starEach (e::es) env=(false,eval e env)::starEach es env:=by w_left):SE W n fc (.Call (.Name y p) (e::es) [⟨some "key",ek,kp⟩] pos) (kj eT false fa fk [.int 0,.none]):=by
 obtain ⟨m,tok0,F⟩:=H.f4.at tb_g%
 obtain ⟨tok,ht⟩:=H.d 42 (by decide)
 exact SE.mono (kO (names:=["a","x","lo","hi","key"]) (dvs:=[.int 0 tok,.none]) 10 2 hg F rfl tb_g% tb_g% (D4 H).2 hk (λs pvs kv g h=>by
  obtain ⟨a,b,rfl⟩:=yL h
  exact oB (by rfl) rfl (g.top _ _ ht) _ _ _) rfl (λh μ ν=>aS.cons (sv:= .d (.int 0)) (Data.int 0 tok) (aS.cons (sv:= .d .none) Data.none aS.nil)) ha hka he hlen) (jp (dv:=[.int 0,.none]) (jl H))
theorem HZ (H:Wf W):gJ W 11 (λvs=>call (.ref 50) vs) (λds=>fy eT false (ds++[.int 0,.none]) (.d .none)):=by
 obtain ⟨m,tok0,F⟩:=H.f4.at tb_g%
 obtain ⟨tok,ht⟩:=H.d 42 (by decide)
 obtain ⟨mk,hn,hm⟩:=H.kd 43 (by decide)
 exact gJ.mono (kS (np:=2) (names:=["a","x","lo","hi","key"]) (dvs:=[.int 0 tok,.none,.none]) F rfl tb_g% tb_g% (D4 H).2 (λs pvs g h=>by
  obtain ⟨a,b,rfl⟩:=yL h
  exact mU (by rfl) rfl rfl (g.top _ _ ht) (hn.keeps g.top) hm _ _) rfl (λh μ ν=>aS.cons (sv:= .d (.int 0)) (Data.int 0 tok) (aS.cons (sv:= .d .none) Data.none (aS.cons (sv:= .d .none) Data.none aS.nil)))) (oO (dv:=[.int 0,.none]) (jl H) rfl)
theorem Wf.c2_bisect_left (H:Wf W) {n:Nat} {fc:FC} {y:Str} {p pos:Pos} {e:Expr} {es:List Expr} {fa:List SV->Option (List PV)} (hg:cG W fc y 50) (ha:gb W n fc (e::es) fa) (hk:11<=n)
  (he:∀ env,starEach (e::es) env=(false,eval e env)::starEach es env:=by w_left):SE W n fc (.Call (.Name y p) (e::es) [] pos) (λst=>(fa st).bind λds=>(fy eT false (ds++[.int 0,.none]) (.d .none)).map .d):=by
 obtain ⟨m,tok,h1,h2⟩:=H.f4
 exact cE 11 hg h1 rfl (HZ H) ha hk he
theorem Wf.k4_bisect_left (H:Wf W) {n:Nat} {fc:FC} {y:Str} {p pos kp:Pos} {e ek:Expr} {es:List Expr} {fa:List SV->Option (List PV)} {fk:List SV->Option SV} (hg:cG W fc y 50) (ha:gb W n fc (e::es) fa) (hka:SE W n fc ek fk) (hk:11<=n) (hlen:∀ st ds,fa st=some ds->ds.length=4)
  (he:∀ env,starEach (e::es) env=(false,eval e env)::starEach es env:=by w_left):SE W n fc (.Call (.Name y p) (e::es) [⟨some "key",ek,kp⟩] pos) (kj eT false fa fk []):=by
 obtain ⟨m,tok0,F⟩:=H.f4.at tb_g%
 obtain ⟨tok,ht⟩:=H.d 42 (by decide)
 exact SE.mono (kO (names:=["a","x","lo","hi","key"]) (dvs:=[]) 10 4 hg F rfl tb_g% tb_g% (D4 H).2 hk (λs pvs kv g h=>by
  obtain ⟨a,b,c,d,rfl⟩:=HJ h
  exact rN (by rfl) rfl (g.top _ _ ht) _ _ _ _ _) rfl (λh μ ν=>aS.nil) ha hka he hlen) (jp (dv:=[]) (jl H))
theorem H0 (H:Wf W):gJ W 11 (λvs=>call (.ref 50) vs) (λds=>fy eT false (ds++[]) (.d .none)):=by
 obtain ⟨m,tok0,F⟩:=H.f4.at tb_g%
 obtain ⟨tok,ht⟩:=H.d 42 (by decide)
 obtain ⟨mk,hn,hm⟩:=H.kd 43 (by decide)
 exact gJ.mono (kS (np:=4) (names:=["a","x","lo","hi","key"]) (dvs:=[.none]) F rfl tb_g% tb_g% (D4 H).2 (λs pvs g h=>by
  obtain ⟨a,b,c,d,rfl⟩:=HJ h
  exact CV (by rfl) rfl rfl (g.top _ _ ht) (hn.keeps g.top) hm _ _ _ _) rfl (λh μ ν=>aS.cons (sv:= .d .none) Data.none aS.nil)) (oO (dv:=[]) (jl H) rfl)
theorem Wf.c4_bisect_left (H:Wf W) {n:Nat} {fc:FC} {y:Str} {p pos:Pos} {e:Expr} {es:List Expr} {fa:List SV->Option (List PV)} (hg:cG W fc y 50) (ha:gb W n fc (e::es) fa) (hk:11<=n)
  (he:∀ env,starEach (e::es) env=(false,eval e env)::starEach es env:=by w_left):SE W n fc (.Call (.Name y p) (e::es) [] pos) (λst=>(fa st).bind λds=>(fy eT false (ds++[]) (.d .none)).map .d):=by
 obtain ⟨m,tok,h1,h2⟩:=H.f4
 exact cE 11 hg h1 rfl (H0 H) ha hk he
noncomputable def D1 (H:Wf W):{ f // SX W 11 (aH 1 [] none) (dG (aj 1)) f }:=⟨_,
(
 cN (jg 4 tb_g%) (af (am 2 tb_g% (H.c4_bisect_right (H.gl tb_g% tb_g% tb_g%) (ad (kc 0 tb_g%) (ad (kc 1 tb_g%) (ad (ac 2 tb_g%) (ad (ac 3 tb_g%) ag)))) (by w_fin)))
 ak) (af (am 2 tb_g% (H.k4_bisect_right (H.gl tb_g% tb_g% tb_g%) (ad (kc 0 tb_g%) (ad (i8 4 tb_g% (ad (kc 1 tb_g%) ag) (by decide)) (ad (ac 2 tb_g%) (ad (ac 3 tb_g%) ag)))) (ac 4 tb_g%) (by decide) (ey (ey (ey (ey l6))))))
 ak))⟩
theorem j1 (H:Wf W) (key:SV) (xs:List PV) (dx:PV) (kk:Nat) (L xv:Value) (h:ba eU true key xs dx=some kk):kk<=xs.length/\xs.length<be/\∃ st st1,aY (aH 1 [] none) [0,1,2,3,4] (.ptr L (.list xs):: .ptr xv dx::([.d (.int 0),.d .none]++[key])) (bc (aH 1 [] none))=some st/\(D1 H).1 st=some (st1,.next)/\rd st1 0=some (.ptr L (.list xs))/\rd st1 2=some (.d (.int kk))/\rd st1 1=some (.ptr xv dx):=by
 obtain ⟨p1,p2,hk,r,h1,hb⟩:=nP h
 refine ⟨p1,p2,[.ptr L (.list xs),.ptr xv dx,.d (.int 0),.d .none,key,.u],[.ptr L (.list xs),.ptr xv dx,.d (.int (kk:Nat)),.d .none,key,.u],?_,?_,rfl,rfl,rfl⟩
 ·show (if v6 (aH 1 [] none) 4 key then _ else none)=_
  rcases dQ hk with ⟨f,rfl⟩ | rfl <;> rfl
 ·rcases dQ hk with ⟨f,rfl⟩ | rfl
  ·obtain ⟨r',h3,h4⟩:=ah (show ((f [dx]).bind λr=>if r.flat then some r else none)=some r from h1)
   obtain ⟨h5,h6⟩:=bI h4
   obtain rfl:=sI h6
   simp [D1,aV,rM,kj,de,ve,rd,bV,h3,h5,vg,IA,vh,CB,IC,CC,IB,dR]
   rw [hb]
   rfl
  ·obtain rfl:=sI (show some dx=some r from h1)
   simp [D1,aV,rM,de,rd,bV,vg,vh,CB,CC,cS]
   rw [hb]
   rfl
theorem Wf.u_insort_right (H:Wf W) {n:Nat} {fc:FC} {y yr yb:Str} {p pos pr pb kp:Pos} {ex:Expr} {fe:List SV->Option SV} (i jk:Nat) (hg:cG W fc y 23) (hrow:bv fc yr i=true) (hby:bv fc yb jk=true) (hex:SE W n fc ex fe) (hk:12<=n)
  (he:∀ env,starEach [.Name yr pr,ex] env=(false,eval (.Name yr pr) env)::starEach [ex] env:=by w_left) (he2:∀ env,starEach [ex] env=(false,eval ex env)::starEach [] env:=by w_left):
  SU W n fc (.Call (.Name y p) [.Name yr pr,ex] [⟨some "key",.Name yb pb,kp⟩] pos) (yj i jk fe λf=>ba eU true (.fn f)):=by
 obtain ⟨m,tok0,F⟩:=H.f1.at tb_g%
 obtain ⟨tok,ht⟩:=H.d 15 (by decide)
 exact CR (fc':=aH 1 [] none) (names:=["a","x","lo","hi","key"]) (ix:=[0,1,2,3,4]) (ia:=0) (il:=2) (ixx:=1) (dvs:=[.int 0 tok,.none]) (dsv:=[.d (.int 0),.d .none]) (f1:=(D1 H).1) 11 i jk hg F rfl tb_g% tb_g% (D1 H).2 hk tb_g% tb_g% tb_g% (by rfl) (λs pvs kv g h=>by
  obtain ⟨a,b,rfl⟩:=yL h
  exact oB (by rfl) rfl (g.top _ _ ht) _ _ _) rfl (λh μ ν=>aS.cons (sv:= .d (.int 0)) (Data.int 0 tok) (aS.cons (sv:= .d .none) Data.none aS.nil)) hrow hby hex (λf=>j1 H (.fn f)) he he2
theorem Wf.v_insort_right (H:Wf W) {n:Nat} {fc:FC} {y yr:Str} {p pos pr:Pos} {ex:Expr} {fe:List SV->Option SV} (i:Nat) (hg:cG W fc y 23) (hrow:bv fc yr i=true) (hex:SE W n fc ex fe) (hk:12<=n)
  (he:∀ env,starEach [.Name yr pr,ex] env=(false,eval (.Name yr pr) env)::starEach [ex] env:=by w_left) (he2:∀ env,starEach [ex] env=(false,eval ex env)::starEach [] env:=by w_left):
  SU W n fc (.Call (.Name y p) [.Name yr pr,ex] [] pos) (ym i fe (ba eU true (.d .none))):=by
 obtain ⟨m,tok0,F⟩:=H.f1.at tb_g%
 obtain ⟨tok,ht⟩:=H.d 15 (by decide)
 obtain ⟨mk,hn,hm⟩:=H.kd 16 (by decide)
 exact wI (fc':=aH 1 [] none) (names:=["a","x","lo","hi","key"]) (ix:=[0,1,2,3,4]) (ia:=0) (il:=2) (ixx:=1) (dvs:=[.int 0 tok,.none,.none]) (dsv:=[.d (.int 0),.d .none,.d .none]) (f1:=(D1 H).1) 11 i hg F rfl tb_g% tb_g% (D1 H).2 hk tb_g% tb_g% tb_g% (by rfl) (λs pvs g h=>by
  obtain ⟨a,b,rfl⟩:=yL h
  exact mU (by rfl) rfl rfl (g.top _ _ ht) (hn.keeps g.top) hm _ _) rfl (λh μ ν=>aS.cons (sv:= .d (.int 0)) (Data.int 0 tok) (aS.cons (sv:= .d .none) Data.none (aS.cons (sv:= .d .none) Data.none aS.nil))) hrow hex (j1 H (.d .none)) he he2
noncomputable def D3 (H:Wf W):{ f // SX W 11 (aH 3 [] none) (dG (aj 3)) f }:=⟨_,
(
 cN (jg 4 tb_g%) (af (am 2 tb_g% (H.c4_bisect_left (H.gl tb_g% tb_g% tb_g%) (ad (kc 0 tb_g%) (ad (kc 1 tb_g%) (ad (ac 2 tb_g%) (ad (ac 3 tb_g%) ag)))) (by w_fin)))
 ak) (af (am 2 tb_g% (H.k4_bisect_left (H.gl tb_g% tb_g% tb_g%) (ad (kc 0 tb_g%) (ad (i8 4 tb_g% (ad (kc 1 tb_g%) ag) (by decide)) (ad (ac 2 tb_g%) (ad (ac 3 tb_g%) ag)))) (ac 4 tb_g%) (by decide) (ey (ey (ey (ey l6))))))
 ak))⟩
theorem j2 (H:Wf W) (key:SV) (xs:List PV) (dx:PV) (kk:Nat) (L xv:Value) (h:ba eT false key xs dx=some kk):kk<=xs.length/\xs.length<be/\∃ st st1,aY (aH 3 [] none) [0,1,2,3,4] (.ptr L (.list xs):: .ptr xv dx::([.d (.int 0),.d .none]++[key])) (bc (aH 3 [] none))=some st/\(D3 H).1 st=some (st1,.next)/\rd st1 0=some (.ptr L (.list xs))/\rd st1 2=some (.d (.int kk))/\rd st1 1=some (.ptr xv dx):=by
 obtain ⟨p1,p2,hk,r,h1,hb⟩:=nP h
 refine ⟨p1,p2,[.ptr L (.list xs),.ptr xv dx,.d (.int 0),.d .none,key,.u],[.ptr L (.list xs),.ptr xv dx,.d (.int (kk:Nat)),.d .none,key,.u],?_,?_,rfl,rfl,rfl⟩
 ·show (if v6 (aH 3 [] none) 4 key then _ else none)=_
  rcases dQ hk with ⟨f,rfl⟩ | rfl <;> rfl
 ·rcases dQ hk with ⟨f,rfl⟩ | rfl
  ·obtain ⟨r',h3,h4⟩:=ah (show ((f [dx]).bind λr=>if r.flat then some r else none)=some r from h1)
   obtain ⟨h5,h6⟩:=bI h4
   obtain rfl:=sI h6
   simp [D3,aV,rM,kj,de,ve,rd,bV,h3,h5,vg,IA,vh,CB,IC,CC,IB,dR]
   rw [hb]
   rfl
  ·obtain rfl:=sI (show some dx=some r from h1)
   simp [D3,aV,rM,de,rd,bV,vg,vh,CB,CC,cS]
   rw [hb]
   rfl
theorem Wf.u_insort_left (H:Wf W) {n:Nat} {fc:FC} {y yr yb:Str} {p pos pr pb kp:Pos} {ex:Expr} {fe:List SV->Option SV} (i jk:Nat) (hg:cG W fc y 41) (hrow:bv fc yr i=true) (hby:bv fc yb jk=true) (hex:SE W n fc ex fe) (hk:12<=n)
  (he:∀ env,starEach [.Name yr pr,ex] env=(false,eval (.Name yr pr) env)::starEach [ex] env:=by w_left) (he2:∀ env,starEach [ex] env=(false,eval ex env)::starEach [] env:=by w_left):
  SU W n fc (.Call (.Name y p) [.Name yr pr,ex] [⟨some "key",.Name yb pb,kp⟩] pos) (yj i jk fe λf=>ba eT false (.fn f)):=by
 obtain ⟨m,tok0,F⟩:=H.f3.at tb_g%
 obtain ⟨tok,ht⟩:=H.d 33 (by decide)
 exact CR (fc':=aH 3 [] none) (names:=["a","x","lo","hi","key"]) (ix:=[0,1,2,3,4]) (ia:=0) (il:=2) (ixx:=1) (dvs:=[.int 0 tok,.none]) (dsv:=[.d (.int 0),.d .none]) (f1:=(D3 H).1) 11 i jk hg F rfl tb_g% tb_g% (D3 H).2 hk tb_g% tb_g% tb_g% (by rfl) (λs pvs kv g h=>by
  obtain ⟨a,b,rfl⟩:=yL h
  exact oB (by rfl) rfl (g.top _ _ ht) _ _ _) rfl (λh μ ν=>aS.cons (sv:= .d (.int 0)) (Data.int 0 tok) (aS.cons (sv:= .d .none) Data.none aS.nil)) hrow hby hex (λf=>j2 H (.fn f)) he he2
theorem Wf.v_insort_left (H:Wf W) {n:Nat} {fc:FC} {y yr:Str} {p pos pr:Pos} {ex:Expr} {fe:List SV->Option SV} (i:Nat) (hg:cG W fc y 41) (hrow:bv fc yr i=true) (hex:SE W n fc ex fe) (hk:12<=n)
  (he:∀ env,starEach [.Name yr pr,ex] env=(false,eval (.Name yr pr) env)::starEach [ex] env:=by w_left) (he2:∀ env,starEach [ex] env=(false,eval ex env)::starEach [] env:=by w_left):
  SU W n fc (.Call (.Name y p) [.Name yr pr,ex] [] pos) (ym i fe (ba eT false (.d .none))):=by
 obtain ⟨m,tok0,F⟩:=H.f3.at tb_g%
 obtain ⟨tok,ht⟩:=H.d 33 (by decide)
 obtain ⟨mk,hn,hm⟩:=H.kd 34 (by decide)
 exact wI (fc':=aH 3 [] none) (names:=["a","x","lo","hi","key"]) (ix:=[0,1,2,3,4]) (ia:=0) (il:=2) (ixx:=1) (dvs:=[.int 0 tok,.none,.none]) (dsv:=[.d (.int 0),.d .none,.d .none]) (f1:=(D3 H).1) 11 i hg F rfl tb_g% tb_g% (D3 H).2 hk tb_g% tb_g% tb_g% (by rfl) (λs pvs g h=>by
  obtain ⟨a,b,rfl⟩:=yL h
  exact mU (by rfl) rfl rfl (g.top _ _ ht) (hn.keeps g.top) hm _ _) rfl (λh μ ν=>aS.cons (sv:= .d (.int 0)) (Data.int 0 tok) (aS.cons (sv:= .d .none) Data.none (aS.cons (sv:= .d .none) Data.none aS.nil))) hrow hex (j2 H (.d .none)) he he2
noncomputable def hV (a:Int) (x:List Nat):PV:= .tuple [.int a,.str x]
noncomputable def i5 (i w:Int):PV:= .tuple [.int i,.int w]
theorem Br (H) (w a b) (x y):fQ H (.tuple [i5 0 w]) [hV a x,hV b y]=some (.int (if a<b then -w else if b<a then w else 0)):=by
 have e1:aY m7 [0,1,2] [.obj cQ (.tuple [i5 0 w]),.d (hV a x),.d (hV b y)] (bc m7)=some [.obj cQ (.tuple [i5 0 w]),.d (hV a x),.d (hV b y),.u,.u,.u,.u]:=by
  show some (cF _ (cF _ (cF _ _ _ _) _ _) _ _)=_
  rw [eh _ _ tb_g%,eh _ _ tb_g%,eh _ _ tb_g%]
  rfl
 unfold fQ bC
 show dy _=_
 simp only [Ay,List.map_cons,List.map_nil,e1,Option.bind_some]
 unfold hV i5
 wp_walk using eh
 by_cases h1:a<b
 ·wp_walk using eh,h1
 ·by_cases h2:b<a
  ·wp_walk using eh,h1,h2
  ·wp_walk using eh,h1,h2
theorem Bd (H) (w v a b) (x y):fQ H (.tuple [i5 0 w,i5 1 v]) [hV a x,hV b y]=some (.int (if a<b then -w else if b<a then w else if x<y then -v else if y<x then v else 0)):=by
 have e1:aY m7 [0,1,2] [.obj cQ (.tuple [i5 0 w,i5 1 v]),.d (hV a x),.d (hV b y)] (bc m7)=some [.obj cQ (.tuple [i5 0 w,i5 1 v]),.d (hV a x),.d (hV b y),.u,.u,.u,.u]:=by
  show some (cF _ (cF _ (cF _ _ _ _) _ _) _ _)=_
  rw [eh _ _ tb_g%,eh _ _ tb_g%,eh _ _ tb_g%]
  rfl
 unfold fQ bC
 show dy _=_
 simp only [Ay,List.map_cons,List.map_nil,e1,Option.bind_some]
 unfold hV i5
 have cg:∀ u v:List Nat,Jt (.str u) (.str v)=some (decide (v<u)):=λU U=>rfl
 wp_walk using eh
 by_cases h1:a<b
 ·wp_walk using eh,h1
 ·by_cases h2:b<a
  ·wp_walk using eh,h1,h2
  ·by_cases h3:x<y
   ·wp_walk using eh,h1,h2,h3,cg
   ·by_cases h4:y<x
    ·wp_walk using eh,h1,h2,h3,h4,cg
    ·wp_walk using eh,h1,h2,h3,h4,cg
noncomputable def Ki (d:PV):Option (Int×List Nat):=match d with
 | .tuple l=>(match l with
  | [a,b]=>(fG a).bind λa=>(vr b).map λb=>(a,b)
  | _=>none)
 | _=>none
theorem u6 {d p} (h:Ki d=some p):d=hV p.1 p.2:=by
 cases d with
 | tuple l=>
  rcases l with _ | ⟨a,_ | ⟨b,_ | ⟨c,l⟩⟩⟩ <;> try exact nS h
  obtain ⟨x,h1,h⟩:=ah h
  obtain ⟨y,h2,rfl⟩:=aA h
  rw [aJ h1,dW h2];rfl
 | _=>exact nS h
noncomputable def CD (i:Int) (d:PV):Option Int:=match d with
 | .tuple l=>(match l with
  | [a,b]=>(fG a).bind λa=>(fG b).bind λb=>if a=i then some b else none
  | _=>none)
 | _=>none
theorem mI {i d p} (h:CD i d=some p):d=i5 i p:=by
 cases d with
 | tuple l=>
  rcases l with _ | ⟨a,_ | ⟨b,_ | ⟨c,l⟩⟩⟩ <;> try exact nS h
  obtain ⟨x,h1,h⟩:=ah h
  obtain ⟨y,h2,h⟩:=ah h
  obtain ⟨rfl,h⟩:=bI h
  obtain rfl:=sI h
  rw [aJ h1,aJ h2];rfl
 | _=>exact nS h
noncomputable def G8 (d:PV):Option (Int×Option Int):=match d with
 | .tuple l=>(match l with
  | [a]=>(CD 0 a).map λw=>(w,none)
  | [a,b]=>(CD 0 a).bind λw=>(CD 1 b).map λv=>(w,some v)
  | _=>none)
 | _=>none
theorem xl {d p} (h:G8 d=some p):(∃ w,d= .tuple [i5 0 w]/\p=(w,none))∨∃ w v,d= .tuple [i5 0 w,i5 1 v]/\p=(w,some v):=by
 cases d with
 | tuple l=>
  rcases l with _ | ⟨a,_ | ⟨b,_ | ⟨c,l⟩⟩⟩ <;> try exact nS h
  ·obtain ⟨w,h1,rfl⟩:=aA h
   exact .inl ⟨w,by rw [mI h1],rfl⟩
  ·obtain ⟨w,h1,h⟩:=ah h
   obtain ⟨v,h2,rfl⟩:=aA h
   exact .inr ⟨w,v,by rw [mI h1,mI h2],rfl⟩
 | _=>exact nS h
noncomputable def Jv (v:Option Int) (x y:List Nat):Int:=match v with
 | none=>0
 | some v=>if x<y then -v else if y<x then v else 0
noncomputable def pS (d:PV) (ds:List PV):Option PV:=(DB ds).bind λp=>(Ki p.1).bind λx=>(Ki p.2).bind λy=>(G8 d).map λw=> .int (if x.1<y.1 then -w.1 else if y.1<x.1 then w.1 else Jv w.2 x.2 y.2)
theorem Ba (H:Wf W) {d ds r} (h:pS d ds=some r):fQ H d ds=some r:=by
 obtain ⟨p,h1,h⟩:=ah h
 obtain ⟨x,h2,h⟩:=ah h
 obtain ⟨y,h3,h⟩:=ah h
 obtain ⟨w,h4,rfl⟩:=(aA h:_)
 rw [gE h1,u6 h2,u6 h3]
 rcases xl h4 with ⟨w,rfl,rfl⟩ | ⟨w,v,rfl,rfl⟩
 ·exact Br H w x.1 y.1 x.2 y.2
 ·exact Bd H w v x.1 y.1 x.2 y.2
theorem Wf.compare (H:Wf W) {n:Nat} {fc:FC} {y:Str} {p apos pos:Pos} {e:Expr} {es:List Expr} {fa:List SV->Option (List PV)} (i:Nat) (hy:bv fc y i=true) (ha:gb W n fc (e::es) fa) (hk:6<=n)
  (hbase:∀ env,attributeBase (.Name y p) "compare" env (eval (.Name y p) env)=eval (.Name y p) env:=by w_left)
  (hfew:∀ env,((backTo pos (starEach (e::es) env)).all (λx=>!x.1)&&(backToKw pos (keywordEach [] env)).all (λx=>x.1.isSome)&&decide ((e::es).length + ([]:List Keyword).length + (if ([]:List Keyword).isEmpty then 0 else 1)<30))=true:=by w_left)
  (hline:(apos.endLine==pos.line)=true:=by rfl) (he:∀ env,starEach (e::es) env=(false,eval e env)::starEach es env:=by w_left):
  SE W n fc (.Call (.Attribute (.Name y p) "compare" apos) (e::es) [] pos) (λst=>(qF cQ (rd st i)).bind λd=>(fa st).bind λds=>(pS d ds).map .d):=by
 obtain ⟨mN,K,_,h92⟩:=H.K
 obtain ⟨m,tok,h1,h2⟩:=id H.i2
 obtain ⟨m',tok',F⟩:=H.i2.at tb_g%
 refine AA i 6 K hy (by decide) h92 h1 rfl rfl sC (λA s μ ν v d vs ds r hA g ex hv hds hr=>?_) ha hk hbase hfew hline he
 have hr:=Ba H hr
 have hr':=c7 hr
 have hlen:ds.length=2:=by
  obtain ⟨st,q,_⟩:=ah hr'
  have:=gm _ _ _ _ q
  simpa using this
 have hl2:vs.length=2:=hds.length.trans hlen
 have hcons:aS W s.heap μ [] (v::vs) (.obj cQ d::ds.map .d):=aS.cons (sv:= .obj cQ d) hv (aS.of_data hds)
 refine wpAny_call (codeAny_mono (jq F rfl tb_g% (names:=["self","left","right"]) tb_g% (Ay H).2.f (by intro t h;w_cond h) (μ:=μ) (ν:=[]) (λA E Q q=>?_) (by simp [hl2]) hA g ex (λb hb=>by w_cond hb) (λb hb=>by w_cond hb) hcons hr') λr s' y=>?_)
 ·obtain ⟨a,b,rfl⟩:=yL hl2
  exact wpAny_of_eq (by rfl) q
 ·obtain ⟨v,rfl,hvr,gr⟩:=y
  exact ⟨hvr,gr⟩
theorem i9 {n:Nat} {fc:FC} {o e:Expr} {apos pos:Pos} {fo fe:List SV->Option SV} (ho:SE W n fc o fo) (he:SE W n fc e fe)
  (hst:∀ env,starEach [e] env=(false,eval e env)::starEach [] env:=by w_left) (hbase:∀ env,attributeBase o "index" env (eval o env)=eval o env:=by w_left)
  (hfew:∀ env,((backTo pos (starEach [e] env)).all (λx=>!x.1)&&(backToKw pos (keywordEach [] env)).all (λx=>x.1.isSome)&&decide (([e]:List Expr).length + ([]:List Keyword).length + (if ([]:List Keyword).isEmpty then 0 else 1)<30))=true:=by w_left)
  (hline:(apos.endLine==pos.line)=true:=by rfl):
  SE W n fc (.Call (.Attribute o "index" apos) [e] [] pos) (λst=>(de fo st).bind λd=>if wf d=some "list" then ((de fe st).bind λx=>some [x]).bind λds=>(o7 (d::ds)).map .d else none):=by
 exact wv (n:=n) (T:="list") 0 F.plainAttrs_list F.slot_list_index F.type_list_index ho (ad he ag hst) za (Nat.zero_le _) hbase hfew hline hst
noncomputable def KF (H:Wf W):{ f // SS W 13 (aH 15 ["row","i"] (some (124,122,"_law_stretch.<locals>.<lambda>"))) (aj 15) f }:=⟨_,
(
 af (ie 2 tb_g% (λenv eo=>fX eo tb_g% tb_g% tb_g%) tb_g% (aO 0 (H.bi tb_g% tb_g% tb_g%) H.v_range tb_g% bn (ad (ao cD (ac 1 tb_g%) ai) (ad (dB ai) (ad (dB ai) ag))) (by decide)) (ay 1 tb_g%) bS (aP 2 (H.bi tb_g% tb_g% tb_g%) H.v_min tb_g% mf (ad (bu (ac 4 tb_g%) (bJ (ac 1 tb_g%)) (bJ (ac 3 tb_g%)) bg) ag) (by decide)))
 (af (ie 3 tb_g% (λenv eo=>fX eo tb_g% tb_g% tb_g%) tb_g% (aO 0 (H.bi tb_g% tb_g% tb_g%) H.v_range tb_g% bn (ad (ao aM (ac 1 tb_g%) ai) (ad (aP 0 (H.bi tb_g% tb_g% tb_g%) H.v_len tb_g% cq (ad (ac 0 tb_g%) ag) (by decide)) ag)) (by decide)) (ay 1 tb_g%) bS (aP 2 (H.bi tb_g% tb_g% tb_g%) H.v_min tb_g% mf (ad (bu (ac 4 tb_g%) (bJ (ao aM (ac 3 tb_g%) ai)) (bJ (ao aM (ac 1 tb_g%) ai)) bg) ag) (by decide)))
 (eY [2,3] (af (b8 (bA (ad (ao cD (ac 1 tb_g%) (H.k2_bisect_right (H.gl tb_g% tb_g% tb_g%) (ad (ac 2 tb_g%) (ad (dB (au (ac 0 tb_g%) (ac 1 tb_g%))) ag)) (fL (k:=7) (pnames:=["v"]) (ix:=[0]) (124,122,"_law_stretch.<locals>.<lambda>") rfl (H.lam _ tb_g%) tb_g% tb_g% tb_g% (λU=>rfl) (λU U U U U=>l1 λU=>rfl) tb_g% (dB (ac 0 tb_g%)) (by decide)) (by decide) (ey (ey l6)))) (ad (ao aM (ac 1 tb_g%) (H.k2_bisect_left (H.gl tb_g% tb_g% tb_g%) (ad (ac 3 tb_g%) (ad (dB (au (ac 0 tb_g%) (ac 1 tb_g%))) ag)) (fL (k:=7) (pnames:=["v"]) (ix:=[0]) (124,122,"_law_stretch.<locals>.<lambda>") rfl (H.lam _ tb_g%) tb_g% tb_g% tb_g% (λU=>rfl) (λU U U U U=>l1 λU=>rfl) tb_g% (dB (ac 0 tb_g%)) (by decide)) (by decide) (ey (ey l6)))) ag))))
 ak))))⟩
noncomputable abbrev dY (H:Wf W):List PV->Option PV:=fC (bC (aH 15 ["row","i"] (some (124,122,"_law_stretch.<locals>.<lambda>"))) [0,1] (KF H).1)
theorem JP (H:Wf W):gJ W 14 (λvs=>call (.ref 125) vs) (dY H):=by
 obtain ⟨m,tok,F⟩:=H.f15.at tb_g%
 exact fw F rfl tb_g% (names:=["row","i"]) tb_g% (KF H).2 (l2 λU U=>rfl) (cI tb_g%) (by intro t h;w_cond h;exact ⟨rfl,show ("_law_stretch":Str)++Str.ofString ".<locals>."++Str.ofString "<lambda>"="_law_stretch.<locals>.<lambda>" by decide +kernel⟩)
noncomputable def rL (m:Nat):Nat->List (List Nat)
 | 0=>[[]]
 | k+1=>(List.range m).flatMap λx=>(rL m k).map (x::·)
theorem AP {m k}:rL m (k+1)=(List.range m).flatMap λx=>(rL m k).map (x::·):=rfl
theorem pH {m} (r:List Nat):(∀ x∈r,x<m)->r∈rL m r.length:=by
 induction r with
 | nil=>intro _;exact .head _
 | cons x r ih=>
  intro h
  rw [List.length_cons,AP]
  exact List.mem_flatMap.mpr ⟨x,List.mem_range.mpr (h x (.head _)),List.mem_map.mpr ⟨r,ih λy hy=>h y (.tail _ hy),rfl⟩⟩
noncomputable def HU:List Nat->Bool
 | []=>true
 | x::r=>r.all (λy=>!Nat.beq x y)&&HU r
noncomputable def an:List (List Nat):=(rL 5 5).filter HU
noncomputable def gG (r:List Nat):Bool:=Nat.beq r.length 5&&r.all (λx=>Nat.blt x 5)&&HU r
theorem du {r} (h:gG r=true):r∈an:=by
 unfold gG at h
 simp only [Bool.and_eq_true] at h
 obtain ⟨⟨h1,h2⟩,h3⟩:=h
 have h1:=Nat.eq_of_beq_eq_true h1
 refine List.mem_filter.mpr ⟨?_,h3⟩
 have:=pH (m:=5) r λx hx=>Nat.blt_eq.mp (List.all_eq_true.mp h2 x hx)
 rw [h1] at this
 exact this
noncomputable def iP (n:Nat):PV:= .int (n:Int)
noncomputable def bH (l:List Nat):PV:= .list (l.map iP)
noncomputable def FT:PV->Option Nat
 | .int (.ofNat n)=>some n
 | _=>none
theorem jj {d n} (h:FT d=some n):d=iP n:=by
 cases d with
 | int i=>cases i with
  | ofNat m=>obtain rfl:=sI h;rfl
  | negSucc m=>exact nS h
 | _=>exact nS h
noncomputable def uB:List PV->Option (List Nat)
 | []=>some []
 | x::xs=>(FT x).bind λn=>(uB xs).map (n::·)
theorem nD {xs}:∀ {l:List Nat},uB xs=some l->xs=l.map iP:=by
 induction xs with
 | nil=>intro l h;w_cond h;rfl
 | cons x xs ih=>
  intro l h
  obtain ⟨n,h1,h⟩:=ah h
  obtain ⟨r,h2,rfl⟩:=(aA h:_)
  rw [jj h1,ih h2];rfl
noncomputable def vV (d:PV):Option (List Nat):=(pA d).bind λxs=>(uB xs).bind λr=>if gG r then some r else none
theorem q7 {d r} (h:vV d=some r):d=bH r/\gG r=true:=by
 obtain ⟨xs,h1,h⟩:=ah h
 obtain ⟨l,h2,h⟩:=ah h
 obtain ⟨h3,h⟩:=bI h
 obtain rfl:=sI h
 rw [cO h1,nD h2]
 exact ⟨rfl,h3⟩
noncomputable def yO (x:Nat):List Nat->Nat
 | []=>0
 | y::l=>if Nat.blt x y then yO x l+1 else 0
noncomputable def fW (r:List Nat) (i:Nat):Nat×Nat:=(i - yO (r.getD i 0) (r.take i).reverse,i + yO (r.getD i 0) (r.drop (i+1)))
noncomputable def Iq (r:List Nat) (i:Nat):PV:= .tuple [iP (fW r i).1,iP (fW r i).2]
noncomputable def IR (f:Nat->Bool):Bool:=f 0&&f 1&&f 2&&f 3&&f 4
theorem wW {f i} (h:IR f=true) (hi:i<5):f i=true:=by
 unfold IR at h
 simp only [Bool.and_eq_true] at h
 obtain ⟨⟨⟨⟨h0,h1⟩,h2⟩,h3⟩,h4⟩:=h
 match i,hi with
 | 0,_=>exact h0
 | 1,_=>exact h1
 | 2,_=>exact h2
 | 3,_=>exact h3
 | 4,_=>exact h4
noncomputable def Cy (o:Option PV) (a b:Nat):Bool:=match o with
 | some (.tuple [x,y])=>FT x==some a&&FT y==some b
 | _=>false
theorem Ag {o a b} (h:Cy o a b=true):o=some (.tuple [iP a,iP b]):=by
 unfold Cy at h
 split at h
 ·simp only [Bool.and_eq_true,beq_iff_eq] at h
  rw [jj h.1,jj h.2]
 ·w_cond h
theorem Cn (H:Wf W):(an.all λr=>IR λi=>Cy (dY H [bH r,iP i]) (fW r i).1 (fW r i).2)=true:=by kernel_rfl
noncomputable def fS (ds:List PV):Option PV:=(DB ds).bind λp=>(vV p.1).bind λr=>(FT p.2).bind λi=>if Nat.blt i 5 then some (Iq r i) else none
theorem He (H:Wf W) {ds r} (h:fS ds=some r):dY H ds=some r:=by
 obtain ⟨p,h1,h⟩:=ah h
 obtain ⟨l,h2,h⟩:=ah h
 obtain ⟨i,h3,h⟩:=ah h
 obtain ⟨h4,h⟩:=bI h
 obtain rfl:=sI h
 obtain ⟨h5,h6⟩:=q7 h2
 rw [gE h1,h5,jj h3]
 exact Ag (wW (f:=λi=>Cy (dY H [bH l,iP i]) (fW l i).1 (fW l i).2) (List.all_eq_true.mp (Cn H) l (du h6)) (Nat.blt_eq.mp h4))
theorem Wf.c_law_stretch (H:Wf W) {n:Nat} {fc:FC} {y:Str} {p pos:Pos} {e:Expr} {es:List Expr} {fa:List SV->Option (List PV)} (hg:cG W fc y 125) (ha:gb W n fc (e::es) fa) (hk:14<=n)
  (he:∀ env,starEach (e::es) env=(false,eval e env)::starEach es env:=by w_left):SE W n fc (.Call (.Name y p) (e::es) [] pos) (λst=>(fa st).bind λds=>(fS ds).map .d):=by
 obtain ⟨m,tok,h1,h2⟩:=H.f15
 exact cE 14 hg h1 rfl (gJ.mono (JP H) λds r h=>He H h) ha hk he
noncomputable def KG (H:Wf W):{ f // SS W 15 (aH 16 [] none) (aj 16) f }:=⟨_,
(
 af (am 2 tb_g% (i9 (ac 0 tb_g%) (ac 1 tb_g%)))
 (af (lu (H.c_law_stretch  (H.gl tb_g% tb_g% tb_g%) (ad (ac 0 tb_g%) (ad (ac 2 tb_g%) ag)) (by w_fin)) (cz 3 4 tb_g% tb_g%))
 (af (oc (names:=["rest","to"]) (ix:=[6,5]) tb_g% (iC (ao aM (bu (ac 0 tb_g%) bg (bJ (ac 2 tb_g%)) bg) (bu (ac 0 tb_g%) (bJ (ao aM (ac 2 tb_g%) ai)) bg bg)) (iC (wu (aC ge (ac 2 tb_g%) (ac 3 tb_g%)) (ac 4 tb_g%) (ac 3 tb_g%)) jh)) (λU=>rfl) (λU eo=>eB ["rest","to"] eo tb_g% tb_g% tb_g% tb_g% tb_g% tb_g% tb_g%))
 (af (b8 (ao aM (ao aM (bu (ac 5 tb_g%) bg (bJ (ac 6 tb_g%)) bg) (aF (bY (ad (ac 1 tb_g%) ag)))) (bu (ac 5 tb_g%) (bJ (ac 6 tb_g%)) bg bg)))
 ak))))⟩
noncomputable abbrev iq (H:Wf W):List PV->Option PV:=fC (bC (aH 16 [] none) [0,1] (KG H).1)
theorem JQ (H:Wf W):gJ W 16 (λvs=>call (.ref 132) vs) (iq H):=by
 obtain ⟨m,tok,F⟩:=H.f16.at tb_g%
 exact fw F rfl tb_g% (names:=["row","x"]) tb_g% (KG H).2 (l2 λU U=>rfl) (cI tb_g%)
noncomputable def By (r:List Nat) (x:Nat):List Nat:=
 let i:=r.idxOf x
 let p:=fW r i
 let q:=r.eraseIdx i
 let t:=if Nat.beq i p.1 then p.2 else p.1
 q.take t++x::q.drop t
noncomputable def B9 (o:Option PV) (l:List Nat):Bool:=match o with
 | some (.list xs)=>uB xs==some l
 | _=>false
theorem zQ {o l} (h:B9 o l=true):o=some (bH l):=by
 unfold B9 at h
 split at h
 ·rw [nD (beq_iff_eq.mp h)];rfl
 ·w_cond h
theorem Bz (H:Wf W):(an.all λr=>IR λx=>B9 (iq H [bH r,iP x]) (By r x))=true:=by kernel_rfl
noncomputable def fH (ds:List PV):Option PV:=(DB ds).bind λp=>(vV p.1).bind λr=>(FT p.2).bind λi=>if Nat.blt i 5 then some (bH (By r i)) else none
theorem Hd (H:Wf W) {ds r} (h:fH ds=some r):iq H ds=some r:=by
 obtain ⟨p,h1,h⟩:=ah h
 obtain ⟨l,h2,h⟩:=ah h
 obtain ⟨i,h3,h⟩:=ah h
 obtain ⟨h4,h⟩:=bI h
 obtain rfl:=sI h
 obtain ⟨h5,h6⟩:=q7 h2
 rw [gE h1,h5,jj h3]
 exact zQ (wW (f:=λx=>B9 (iq H [bH l,iP x]) (By l x)) (List.all_eq_true.mp (Bz H) l (du h6)) (Nat.blt_eq.mp h4))
theorem Wf.c_law_hop (H:Wf W) {n:Nat} {fc:FC} {y:Str} {p pos:Pos} {e:Expr} {es:List Expr} {fa:List SV->Option (List PV)} (hg:cG W fc y 132) (ha:gb W n fc (e::es) fa) (hk:16<=n)
  (he:∀ env,starEach (e::es) env=(false,eval e env)::starEach es env:=by w_left):SE W n fc (.Call (.Name y p) (e::es) [] pos) (λst=>(fa st).bind λds=>(fH ds).map .d):=by
 obtain ⟨m,tok,h1,h2⟩:=H.f16
 exact cE 16 hg h1 rfl (gJ.mono (JQ H) λds r h=>Hd H h) ha hk he
noncomputable def KH (H:Wf W):{ f // SS W 17 (aH 17 ["x"] none) (aj 17) f }:=⟨_,
(
 af (am 2 tb_g% (aF (bY (ad (ac 0 tb_g%) ag))))
 (af (el (cZ (ac 1 tb_g%)) (ay 3 tb_g%) (af (am 2 tb_g% (ao aM (ac 2 tb_g%) (aF (a0 tb_g% (cZ (ac 2 tb_g%)) (ay 1 tb_g%) bS (H.c_law_hop  (H.gl tb_g% tb_g% tb_g%) (ad (ac 1 tb_g%) (ad (ac 3 tb_g%) ag)) (by w_fin))))))
 ak))
 (af (b8 (ac 2 tb_g%))
 ak)))⟩
noncomputable abbrev lP (H:Wf W):List PV->Option PV:=fC (bC (aH 17 ["x"] none) [0,1] (KH H).1)
theorem JR (H:Wf W):gJ W 18 (λvs=>call (.ref 137) vs) (lP H):=by
 obtain ⟨m,tok,F⟩:=H.f17.at tb_g%
 exact fw F rfl tb_g% (names:=["row","free"]) tb_g% (KH H).2 (l2 λU U=>rfl) (cI tb_g%)
theorem Wf.c_law_rows (H:Wf W) {n:Nat} {fc:FC} {y:Str} {p pos:Pos} {e:Expr} {es:List Expr} {fa:List SV->Option (List PV)} (hg:cG W fc y 137) (ha:gb W n fc (e::es) fa) (hk:18<=n)
  (he:∀ env,starEach (e::es) env=(false,eval e env)::starEach es env:=by w_left):SE W n fc (.Call (.Name y p) (e::es) [] pos) (λst=>(fa st).bind λds=>(lP H ds).map .d):=by
 obtain ⟨m,tok,h1,h2⟩:=H.f17
 exact cE 18 hg h1 rfl (JR H) ha hk he
noncomputable def DH (H:Wf W):{ f // SX W 18 (aH 18 [] none) (dG ((cU 2 (aj 18)).drop 1)) f }:=⟨_,
(fM 5 tb_g% (ao aM (ao aM (ao aM (ao uH (bU [40] tb_g%) (ac 11 tb_g%)) (au (ac 1 tb_g%) (ac 10 tb_g%))) (au (ac 2 tb_g%) (au (ac 1 tb_g%) (ac 10 tb_g%)))) (ao uH (bU [41] tb_g%) (ac 12 tb_g%))))⟩
noncomputable def DG (H:Wf W):{ f // SX W 18 (aH 18 [] none) (dG (cU 2 (aj 18))) f }:=⟨_,
(oc (names:=["opened","closed"]) (ix:=[12,11]) tb_g% (iC (ao cD (H.c2_bisect_right (H.gl tb_g% tb_g% tb_g%) (ad (ac 3 tb_g%) (ad (ac 9 tb_g%) ag)) (by w_fin)) (H.c2_bisect_left (H.gl tb_g% tb_g% tb_g%) (ad (ac 3 tb_g%) (ad (ac 9 tb_g%) ag)) (by w_fin))) (iC (ao cD (H.c2_bisect_right (H.gl tb_g% tb_g% tb_g%) (ad (ac 4 tb_g%) (ad (ac 9 tb_g%) ag)) (by w_fin)) (H.c2_bisect_left (H.gl tb_g% tb_g% tb_g%) (ad (ac 4 tb_g%) (ad (ac 9 tb_g%) ag)) (by w_fin))) jh)) (λU=>rfl) (λU eo=>eB ["opened","closed"] eo tb_g% tb_g% tb_g% tb_g% tb_g% tb_g% tb_g%))⟩
noncomputable def DE (H:Wf W):{ f // SS W 18 (aH 18 [] none) (cU 2 (aj 18)) f }:=⟨_,
(
 af (DG H).2
 (af (DH H).2
 ak))⟩
noncomputable def DF (H:Wf W):{ f // SS W 18 (aH 18 [] none) ((aj 18).drop 2) f }:=⟨_,
(
 eY [3,4] (af (el (aO 0 (H.bi tb_g% tb_g% tb_g%) H.v_enumerate tb_g% gA (ad (ac 0 tb_g%) ag) (by decide)) (cz 9 10 tb_g% tb_g%) (DE H).2)
 (eY [5] (af (b8 (n5 (bU [] tb_g%) (ac 5 tb_g%)))
 ak))))⟩
noncomputable def Jd (H:Wf W):{ f // SS W 18 (aH 18 [] none) (cU 1 (aj 18)) f }:=⟨_,
(
 af (lu (H.c_law_stretch  (H.gl tb_g% tb_g% tb_g%) (ad (ac 0 tb_g%) (ad (ac 6 tb_g%) ag)) (by w_fin)) (cz 7 8 tb_g% tb_g%))
 (af (kT (H.v_insort_left 3 (H.gl tb_g% tb_g% tb_g%) tb_g% (ac 7 tb_g%) (by decide)))
 (af (kT (H.v_insort_right 4 (H.gl tb_g% tb_g% tb_g%) tb_g% (ac 8 tb_g%) (by decide)))
 ak)))⟩
noncomputable def Je (H:Wf W):{ f // SS W 18 (aH 18 [] none) ((aj 18).drop 1) f }:=⟨_,
(
 af (el (aO 0 (H.bi tb_g% tb_g% tb_g%) H.v_range tb_g% bn (ad (aP 0 (H.bi tb_g% tb_g% tb_g%) H.v_len tb_g% cq (ad (ac 0 tb_g%) ag) (by decide)) ag) (by decide)) (ay 6 tb_g%) (Jd H).2)
 (DF H).2)⟩
noncomputable def Jc (H:Wf W):{ f // SS W 18 (aH 18 [] none) (aj 18) f }:=⟨_,
(
 af (oc (names:=["begins","ends","out"]) (ix:=[5,4,3]) tb_g% (kF (bY ag) (kF (bY ag) (kF (bY ag) jh))) (λU=>rfl) (λU eo=>eB ["begins","ends","out"] eo tb_g% tb_g% tb_g% tb_g% tb_g% tb_g% tb_g%))
 (Je H).2)⟩
noncomputable abbrev gt (H:Wf W):List PV->Option PV:=fC (bC (aH 18 [] none) [0,1,2] (Jc H).1)
theorem JS (H:Wf W):gJ W 19 (λvs=>call (.ref 144) vs) (gt H):=by
 obtain ⟨m,tok,F⟩:=H.f18.at tb_g%
 exact fw F rfl tb_g% (names:=["row","names","pieces"]) tb_g% (Jc H).2 (l3 λU U U=>rfl) (cI tb_g%)
theorem Wf.c_law_text (H:Wf W) {n:Nat} {fc:FC} {y:Str} {p pos:Pos} {e:Expr} {es:List Expr} {fa:List SV->Option (List PV)} (hg:cG W fc y 144) (ha:gb W n fc (e::es) fa) (hk:19<=n)
  (he:∀ env,starEach (e::es) env=(false,eval e env)::starEach es env:=by w_left):SE W n fc (.Call (.Name y p) (e::es) [] pos) (λst=>(fa st).bind λds=>(gt H ds).map .d):=by
 obtain ⟨m,tok,h1,h2⟩:=H.f18
 exact cE 19 hg h1 rfl (JS H) ha hk he
noncomputable def Ax (H:Wf W):{ f // SS W 20 (aH 19 ["units","ends","names"] none) ((aj 19).drop 5) f }:=⟨_,
(
 eY [7] (af (b8 (bA (ad (n5 (bU [] tb_g%) (aF (a0 tb_g% (cZ (ac 2 tb_g%)) (ay 1 tb_g%) (dl (fx (cC (aC ge (ac 1 tb_g%) (bU [40] tb_g%)) (cC (aC ge (ac 1 tb_g%) (bU [41] tb_g%)) ke)))) (ac 1 tb_g%)))) (ad (ac 7 tb_g%) ag))))
 ak))⟩
noncomputable def Aw (H:Wf W):{ f // SS W 20 (aH 19 ["units","ends","names"] none) ((aj 19).drop 4) f }:=⟨_,
(
 eY [6] (af (n9 7 tb_g% (λenv eo=>mE eo tb_g% tb_g% tb_g%) tb_g% (cZ (ac 6 tb_g%)) (cz 1 2 tb_g% tb_g%) (dl (aC fA (ac 2 tb_g%) (aF (bY ag)))) (ac 1 tb_g%) (aF (a0 tb_g% (cZ (bu (ac 5 tb_g%) (bJ (au (ac 2 tb_g%) (dB ai))) (bJ (au (ac 3 tb_g%) (au (ac 2 tb_g%) (dB ai)))) bg)) (ay 1 tb_g%) (dl (aC Ei (ac 1 tb_g%) (ac 2 tb_g%))) (ac 1 tb_g%))))
 (Ax H).2))⟩
noncomputable def Av (H:Wf W):{ f // SS W 20 (aH 19 ["units","ends","names"] none) ((aj 19).drop 3) f }:=⟨_,
(
 eY [3] (af (ie 6 tb_g% (λenv eo=>fX eo tb_g% tb_g% tb_g%) tb_g% (aO 0 (H.bi tb_g% tb_g% tb_g%) H.v_enumerate tb_g% gA (ad (ac 2 tb_g%) ag) (by decide)) (cz 1 2 tb_g% tb_g%) (dl (aC Ei (ac 2 tb_g%) (ac 4 tb_g%))) (bA (ad (ac 2 tb_g%) (ad (aF (a0 tb_g% (cZ (ac 3 tb_g%)) (ay 1 tb_g%) (dl (AI jP jP (ac 1 tb_g%) (ac 3 tb_g%) (au (ac 2 tb_g%) (ac 1 tb_g%)))) (ac 1 tb_g%))) ag))))
 (Aw H).2))⟩
noncomputable def rA (H:Wf W):{ f // SS W 20 (aH 19 ["units","ends","names"] none) (cU 0 (cU 2 (aj 19))) f }:=⟨_,
(
 af (cN (fx (lm (aC oF (ac 4 tb_g%) (ac 3 tb_g%)) (lm (aC ge (au (ac 2 tb_g%) (ac 5 tb_g%)) (bU [41] tb_g%)) (lm (aC xd (H.c_check_parenthesis  (H.gl tb_g% tb_g% tb_g%) (ad (n5 (bU [] tb_g%) (bu (ac 2 tb_g%) (bJ (ac 4 tb_g%)) (bJ (ao aM (ac 5 tb_g%) ai)) bg)) ag) (by w_fin)) cX) CJ)))) (af (jO 3 tb_g% (ac 4 tb_g%) (ac 5 tb_g%))
 ak) ak)
 ak)⟩
noncomputable def wt (H:Wf W):{ f // SS W 20 (aH 19 ["units","ends","names"] none) (cU 2 (aj 19)) f }:=⟨_,
(
 af (el (aO 0 (H.bi tb_g% tb_g% tb_g%) H.v_range tb_g% bn (ad (ac 4 tb_g%) (ad (aP 0 (H.bi tb_g% tb_g% tb_g%) H.v_len tb_g% cq (ad (ac 2 tb_g%) ag) (by decide)) ag)) (by decide)) (ay 5 tb_g%) (rA H).2)
 ak)⟩
noncomputable def F6 (H:Wf W):{ f // SS W 20 (aH 19 ["units","ends","names"] none) ((aj 19).drop 2) f }:=⟨_,
(
 af (el (cZ (aF (a0 tb_g% (aO 0 (H.bi tb_g% tb_g% tb_g%) H.v_range tb_g% bn (ad (aP 0 (H.bi tb_g% tb_g% tb_g%) H.v_len tb_g% cq (ad (ac 2 tb_g%) ag) (by decide)) ag) (by decide)) (ay 1 tb_g%) (dl (aC ge (au (ac 2 tb_g%) (ac 1 tb_g%)) (bU [40] tb_g%))) (ac 1 tb_g%)))) (ay 4 tb_g%) (wt H).2)
 (Av H).2)⟩
noncomputable def Au (H:Wf W):{ f // SS W 20 (aH 19 ["units","ends","names"] none) ((aj 19).drop 1) f }:=⟨_,
(
 af (tn 3 tb_g% n6)
 (F6 H).2)⟩
noncomputable def IF (H:Wf W):{ f // SS W 20 (aH 19 ["units","ends","names"] none) (aj 19) f }:=⟨_,
(
 af (am 2 tb_g% (aF (a0 tb_g% (H.itG (H.gl tb_g% tb_g% tb_g%) (ad (H.c_strip_quoted_realnames  (H.gl tb_g% tb_g% tb_g%) (ad (ac 0 tb_g%) ag) (by w_fin)) ag) (by decide)) (cz 1 2 tb_g% tb_g%) bS (ac 2 tb_g%))) (λenv eo=>hH eo tb_g%))
 (Au H).2)⟩
noncomputable abbrev eK (H:Wf W):List PV->Option PV:=fC (bC (aH 19 ["units","ends","names"] none) [0,1] (IF H).1)
theorem JT (H:Wf W):gJ W 21 (λvs=>call (.ref 149) vs) (eK H):=by
 obtain ⟨m,tok,F⟩:=H.f19.at tb_g%
 exact fw F rfl tb_g% (names:=["text","names"]) tb_g% (IF H).2 (l2 λU U=>rfl) (cI tb_g%)
theorem Wf.c_law_read (H:Wf W) {n:Nat} {fc:FC} {y:Str} {p pos:Pos} {e:Expr} {es:List Expr} {fa:List SV->Option (List PV)} (hg:cG W fc y 149) (ha:gb W n fc (e::es) fa) (hk:21<=n)
  (he:∀ env,starEach (e::es) env=(false,eval e env)::starEach es env:=by w_left):SE W n fc (.Call (.Name y p) (e::es) [] pos) (λst=>(fa st).bind λds=>(eK H ds).map .d):=by
 obtain ⟨m,tok,h1,h2⟩:=H.f19
 exact cE 21 hg h1 rfl (JT H) ha hk he
noncomputable abbrev aD:FC:=aH 20 ["cells","marks","down","back","row","one","names","ways","alone","free","line","tale","r","sizes","plain","comp","flat","shelf"] (some (153,151,"law.<locals>.<lambda>"))
theorem ul {bs:List Stmt} {k} (h:Nat.blt k bs.length=true):bs.drop k=dG (bs.drop k)::bs.drop (k+1):=by
 rw [List.drop_eq_getElem_cons (Nat.blt_eq.mp h)];rfl
theorem pD {n:Nat} {fc:FC} {bs:List Stmt} {k f g} (h:Nat.blt k bs.length=true) (hf:SX W n fc (dG (bs.drop k)) f) (hg:SS W n fc (bs.drop (k+1)) g):SS W n fc (bs.drop k) (aV f g):=by
 rw [ul h];exact af hf hg
theorem iI {n:Nat} {fc:FC} {Fr} {bs:List Stmt} {k f g} (h:Nat.blt k bs.length=true) (hf:CO W Fr n fc (dG (bs.drop k)) f) (hg:rG W Fr n fc (bs.drop (k+1)) g):rG W Fr n fc (bs.drop k) (aV f g):=by
 rw [ul h];exact AG hf hg
theorem Gg {n:Nat} {fc:FC} {Fr} {bs:List Stmt} {f g} (h:Nat.blt 0 bs.length=true) (hf:CO W Fr n fc (dG bs) f) (hg:rG W Fr n fc (bs.drop 1) g):rG W Fr n fc bs (aV f g):=iI (k:=0) h hf hg
noncomputable def JX:PV->PV->Option PV:=EX λa b=>if (decide (0<=a)&&decide (a.natAbs<1000)&&decide (0<=b)&&decide (b<100))=true then some (.int ((a.toNat ^ b.toNat:Nat):Int)) else none
theorem zb:tj W (binaryOp .Pow) JX:=mj λ{A s i j t u r Q E} h q=>by
 obtain ⟨hc,h⟩:=bI h
 simp only [Bool.and_eq_true,decide_eq_true_eq] at hc
 obtain ⟨⟨⟨h0,h1⟩,h2⟩,h3⟩:=hc
 obtain rfl:=sI h
 refine pow_int_small h2 (Int.le_trans (Int.le_of_lt h3) (by decide)) (Nat.lt_trans h1 (by decide)) (q _ _ λF=>?_)
 have:((i.toNat ^ j.toNat:Nat):Int)=i ^ j.toNat:=by rw [Int.natCast_pow,Int.toNat_of_nonneg h0]
 rw [this]
 exact .int _ _
theorem Wf.i_insort_right (H:Wf W):mS W 12 23 (ba eU true (.d .none)):=by
 obtain ⟨m,tok0,F⟩:=H.f1.at tb_g%
 obtain ⟨tok,ht⟩:=H.d 15 (by decide)
 obtain ⟨mk,hn,hm⟩:=H.kd 16 (by decide)
 exact qq (fc':=aH 1 [] none) (names:=["a","x","lo","hi","key"]) (ix:=[0,1,2,3,4]) (ia:=0) (il:=2) (ixx:=1) (dvs:=[.int 0 tok,.none,.none]) (dsv:=[.d (.int 0),.d .none,.d .none]) (f1:=(D1 H).1) 11 F rfl tb_g% tb_g% (D1 H).2 tb_g% tb_g% tb_g% (by rfl) (λs pvs g h=>by
  obtain ⟨a,b,rfl⟩:=yL h
  exact mU (by rfl) rfl rfl (g.top _ _ ht) (hn.keeps g.top) hm _ _) rfl (λh μ ν=>aS.cons (sv:= .d (.int 0)) (Data.int 0 tok) (aS.cons (sv:= .d .none) Data.none (aS.cons (sv:= .d .none) Data.none aS.nil))) (j1 H (.d .none))
theorem Wf.i_insort_left (H:Wf W):mS W 12 41 (ba eT false (.d .none)):=by
 obtain ⟨m,tok0,F⟩:=H.f3.at tb_g%
 obtain ⟨tok,ht⟩:=H.d 33 (by decide)
 obtain ⟨mk,hn,hm⟩:=H.kd 34 (by decide)
 exact qq (fc':=aH 3 [] none) (names:=["a","x","lo","hi","key"]) (ix:=[0,1,2,3,4]) (ia:=0) (il:=2) (ixx:=1) (dvs:=[.int 0 tok,.none,.none]) (dsv:=[.d (.int 0),.d .none,.d .none]) (f1:=(D3 H).1) 11 F rfl tb_g% tb_g% (D3 H).2 tb_g% tb_g% tb_g% (by rfl) (λs pvs g h=>by
  obtain ⟨a,b,rfl⟩:=yL h
  exact mU (by rfl) rfl rfl (g.top _ _ ht) (hn.keeps g.top) hm _ _) rfl (λh μ ν=>aS.cons (sv:= .d (.int 0)) (Data.int 0 tok) (aS.cons (sv:= .d .none) Data.none (aS.cons (sv:= .d .none) Data.none aS.nil))) (j2 H (.d .none))
noncomputable def vK:List Nat:=[108,111,32,109,117,115,116,32,98,101,32,110,111,110,45,110,101,103,97,116,105,118,101]
theorem Wf.tryR (H:Wf W) {n:Nat} {fc:FC} {y nf yw:Str} {rst:Stmt} {els2:List Stmt} {p cpos kp xpos tp wp sp np scp apos hp tpos:Pos} {e ek:Expr} {es:List Expr} {fa fk} (iw jf:Nat) (hg:cG W fc y 32) (hk:11<=n) (ha:gb W n fc (e::es) fa) (hka:SE W n fc ek fk) (hlen:∀ st ds,fa st=some ds->ds.length=4)
  (hb:iD W fc "ValueError") (hbs:iD W fc "str") (hw:eV fc yw iw=true) (hwl:dK fc iw=true) (hne:iw≠jf) (hf:eV fc nf jf=true) (hfl:dK fc jf=true) (hnd:(nf==("__debug__":Str))=false)
  (he:∀ env,starEach (e::es) env=(false,eval e env)::starEach es env:=by w_left)
  (hs1:∀ env,swapsWith (.Call (.Name y p) (e::es) [⟨some "key",ek,kp⟩] cpos) none xpos.line env=pure false:=by w_left)
  (hs2:∀ env,cx fc env->swapsWith (.Call (.Name "str" sp) [.Name nf np] [] scp) (some (.Name yw wp)) apos.line env=pure false:=by w_left):
  CO W (some []) n fc (.Try [.Expr (.Call (.Name y p) (e::es) [⟨some "key",ek,kp⟩] cpos) xpos,rst] [.ExceptHandler (some (.Name "ValueError" tp)) (some nf) [.Assign [.Name yw wp] (.Call (.Name "str" sp) [.Name nf np] [] scp) apos] hp] els2 [] tpos) (FG fc (aH 2 [] none) [0,1,2,3,4] 2 iw jf vK fa fk):=by
 obtain ⟨m,tok0,F⟩:=H.f2.at tb_g%
 obtain ⟨tok,ht⟩:=H.d 24 (by decide)
 exact Gp (names:=["a","x","lo","hi","key"]) 10 4 2 iw jf hg F rfl tb_g% tb_g% hk (λs pvs kv g h=>by
  obtain ⟨a,b,c,d,rfl⟩:=HJ h
  exact rN (by rfl) rfl (g.top _ _ ht) _ _ _ _ _) rfl ha hka hlen tb_g% (H.bi tb_g% tb_g% tb_g%) tb_g% hb hbs hw hwl hne hf hfl hnd he (by intro t h;w_cond h) hs1 hs2
theorem DR {n:Nat} {fc:FC} {Fr bs g} (is) (hg:rG W Fr n fc bs g):rG W Fr n fc bs (λst=>g (jT is st)):=by
 intro A env κ B ω st s out a1 a2 hA x h
 exact hg A env κ B ω _ s out a1 a2 hA (x.fgts is) h
theorem kR.o {a t q dv kv} (x:kR W a t q dv kv):W.G.get? a=some { cls:= .type "function",data:= .func (Hh t q dv kv x.choose x.choose_spec.choose (a - 1)) }:=x.choose_spec.choose_spec.1
noncomputable def IP (H:Wf W):{ f // SX W 60 aD (dG ((aj 20).drop 28)) f }:=⟨_,
(b8 (mR ge (au (ac 39 tb_g%) ai) (au (ac 39 tb_g%) ai)))⟩
noncomputable def Y4 (H:Wf W):{ f // SX W 60 aD (dG ((cU 27 (aj 20)).drop 4)) f }:=⟨_,
(fM 39 tb_g% (bA (ad (ac 41 tb_g%) (ad (aF (pB tb_g% (cZ (ac 43 tb_g%)) (ay 1 tb_g%) bS (ac 1 tb_g%) (aF (kP 2 (H.bi tb_g% tb_g% tb_g%) H.v_sorted tb_g% ze (ad (au (ac 3 tb_g%) (ac 1 tb_g%)) ag) (by decide))))) ag))))⟩
noncomputable def Y3 (H:Wf W):{ f // SX W 60 aD (dG ((cU 27 (aj 20)).drop 3)) f }:=⟨_,
(
 cN (fx (cC (aC tN (H.c_check_parenthesis  (H.gl tb_g% tb_g% tb_g%) (ad (ac 40 tb_g%) ag) (by w_fin)) cX) (cC (aC tN (H.c_check_parenthesis  (H.gl tb_g% tb_g% tb_g%) (ad (ao aM (ao aM (bU [41] tb_g%) (ac 40 tb_g%)) (bU [40] tb_g%)) ag) (by w_fin)) cX) (cC (aC fA (ac 42 tb_g%) (ac 43 tb_g%)) ke)))) (af (b8 cX)
 ak) ak)⟩
noncomputable def Y2 (H:Wf W):{ f // SX W 60 aD (dG ((cU 27 (aj 20)).drop 2)) f }:=⟨_,
(am 43 tb_g% (aF (pB tb_g% (aO 0 (H.bi tb_g% tb_g% tb_g%) H.v_range tb_g% bn (ad ai ag) (by decide)) (ay 1 tb_g%) bS (au (ac 3 tb_g%) (au (ac 4 tb_g%) (ac 1 tb_g%))) (aF (a0 tb_g% (aO 0 (H.bi tb_g% tb_g% tb_g%) H.v_range tb_g% bn (ad ai ag) (by decide)) (ay 1 tb_g%) (dl (aC ge (aP 2 (H.bi tb_g% tb_g% tb_g%) H.v_min tb_g% mf (ad (bu (ac 6 tb_g%) (bJ (aP 2 (H.bi tb_g% tb_g% tb_g%) H.v_min tb_g% mf (ad (ac 4 tb_g%) (ad (ac 1 tb_g%) ag)) (by decide))) (bJ (ao aM (aP 2 (H.bi tb_g% tb_g% tb_g%) H.v_max tb_g% sE (ad (ac 4 tb_g%) (ad (ac 1 tb_g%) ag)) (by decide)) ai)) bg) ag) (by decide)) (au (ac 6 tb_g%) (ac 4 tb_g%)))) (au (ac 5 tb_g%) (au (ac 6 tb_g%) (ac 1 tb_g%))))))) (λenv eo=>Aa eo tb_g%))⟩
noncomputable def Y1 (H:Wf W):{ f // SX W 60 aD (dG ((cU 27 (aj 20)).drop 1)) f }:=⟨_,
(lu (H.c_law_read  (H.gl tb_g% tb_g% tb_g%) (ad (ac 40 tb_g%) (ad (ac 13 tb_g%) ag)) (by w_fin)) (cz 41 42 tb_g% tb_g%))⟩
noncomputable def Y0 (H:Wf W):{ f // SX W 60 aD (dG (cU 27 (aj 20))) f }:=⟨_,
(am 40 tb_g% (H.c_law_text  (H.gl tb_g% tb_g% tb_g%) (ad (ac 27 tb_g%) (ad (ac 13 tb_g%) (ad (ac 5 tb_g%) ag))) (by w_fin)))⟩
noncomputable def Jb (H:Wf W):{ f // SS W 60 aD (cU 27 (aj 20)) f }:=⟨_,
(
 af (Y0 H).2
 (af (Y1 H).2
 (af (Y2 H).2
 (af (Y3 H).2
 (af (Y4 H).2
 ak)))))⟩
noncomputable def IO (H:Wf W):{ f // SX W 60 aD (dG ((aj 20).drop 27)) f }:=⟨_,
(el (cZ (aF (bY (ad (ac 10 tb_g%) (ad (au (ac 23 tb_g%) (ao cD (dB ai) (ao eR (ao fF (au (ac 1 tb_g%) ai) ai) (aP 2 (H.bi tb_g% tb_g% tb_g%) H.v_max tb_g% sE (ad ai (ad (ao cD (aP 0 (H.bi tb_g% tb_g% tb_g%) H.v_len tb_g% cq (ad (ac 23 tb_g%) ag) (by decide)) ai) ag)) (by decide))))) ag))))) (ay 27 tb_g%) (Jb H).2)⟩
noncomputable def Lh (H:Wf W):{ f // SS W 60 aD ((aj 20).drop 27) f }:=⟨_,
(
 wC [20,21,22,24,25,26,27,28,29,30,31,32,33,34,35,36,37,38,17,44,46] (af (IO H).2
 (af (IP H).2
 ak)))⟩
noncomputable def KT (H:Wf W):{ f // SX W 60 aD (dG ((aj 20).drop 26)) f }:=⟨_,
(
 cN (fx (cC (aC fA (ac 24 tb_g%) (aF (kP 2 (H.bi tb_g% tb_g% tb_g%) H.v_sorted tb_g% mh (ad (H.c_law_rows  (H.gl tb_g% tb_g% tb_g%) (ad (ac 10 tb_g%) (ad (bu (ac 22 tb_g%) bg bg (bJ (dB ai))) ag)) (by w_fin)) ag) (by decide)))) (cC (aC fA (aF (a0 tb_g% (cZ (ac 23 tb_g%)) (ay 1 tb_g%) (dl (aC fA (ao cD (H.c2_bisect_right (H.gl tb_g% tb_g% tb_g%) (ad (ac 4 tb_g%) (ad (ac 1 tb_g%) ag)) (by w_fin)) (H.c2_bisect_left (H.gl tb_g% tb_g% tb_g%) (ad (ac 4 tb_g%) (ad (ac 1 tb_g%) ag)) (by w_fin))) ai)) (ac 1 tb_g%))) (aF (bY ag))) ke))) (af (b8 cX)
 ak) ak)⟩
noncomputable def KS (H:Wf W):{ f // SX W 60 aD (dG ((aj 20).drop 25)) f }:=⟨_,
(
 cN (aC fA (aF (bY (ad (ac 36 tb_g%) (ad (ac 37 tb_g%) ag)))) (aF (a0 tb_g% (cZ (bA (ad (ac 17 tb_g%) (ad (ao aM (ac 17 tb_g%) ai) ag)))) (ay 1 tb_g%) bS (ao aM (ao aM (bu (ac 2 tb_g%) bg (bJ (ac 1 tb_g%)) bg) (aF (bY (ad (ao aM (ac 3 tb_g%) (aF (bY (ad ai ag)))) ag)))) (bu (ac 2 tb_g%) (bJ (ac 1 tb_g%)) bg bg))))) (af (b8 cX)
 ak) ak)⟩
noncomputable def KR (H:Wf W):{ f // SX W 60 aD (dG ((aj 20).drop 21)) f }:=⟨_,
(pF (names:=["ahead","after","twin","n","tales"]) (ix:=[36,37,38,17,39]) tb_g% (kF (kQ 2 (H.bi tb_g% tb_g% tb_g%) H.v_list tb_g% lc (ad (ac 24 tb_g%) ag) (by decide)) (kF (kQ 2 (H.bi tb_g% tb_g% tb_g%) H.v_list tb_g% lc (ad (ac 24 tb_g%) ag) (by decide)) (kF (kQ 2 (H.bi tb_g% tb_g% tb_g%) H.v_list tb_g% lc (ad (ac 10 tb_g%) ag) (by decide)) (iC (i9 (aF (kP 2 (H.bi tb_g% tb_g% tb_g%) H.v_sorted tb_g% mh (ad (ac 23 tb_g%) ag) (by decide))) (ac 10 tb_g%)) (kF (bY ag) jh))))) (λenv=>(.cons (bQ _ _ _) (.cons (bQ _ _ _) (.cons (bQ _ _ _) (.cons (bQ _ _ _) (.cons (bQ _ _ _) .nil)))))) (λU=>rfl) (λU=>rfl) (λU eo=>rfl))⟩
noncomputable def KQ (H:Wf W):{ f // SX W 60 aD (dG ((aj 20).drop 20)) f }:=⟨_,
(
 cN (fx (cC (aC fA (ac 25 tb_g%) (bA (ad (F7 (ac 35 tb_g%) (ac 21 tb_g%) ai) (ad (aP 0 (H.bi tb_g% tb_g% tb_g%) H.v_len tb_g% cq (ad (ac 34 tb_g%) ag) (by decide)) (ad (ao aM (aP 2 (H.bi tb_g% tb_g% tb_g%) H.v_sum tb_g% sF (ad (ac 34 tb_g%) ag) (by decide)) (ao iu (ao cD (ac 21 tb_g%) ai) (aP 0 (H.bi tb_g% tb_g% tb_g%) H.v_len tb_g% cq (ad (ac 34 tb_g%) ag) (by decide)))) (ad (dB (aP 2 (H.bi tb_g% tb_g% tb_g%) H.v_sum tb_g% sF (ad (ac 34 tb_g%) ag) (by decide))) (ad (ac 35 tb_g%) ag))))))) (cC (aC fA (H.c_count_calls  (H.gl tb_g% tb_g% tb_g%) (ad (au (ac 25 tb_g%) ai) ag) (by w_fin)) (aP 0 (H.bi tb_g% tb_g% tb_g%) H.v_len tb_g% cq (ad (ac 34 tb_g%) ag) (by decide))) ke))) (af (b8 cX)
 ak) ak)⟩
noncomputable def KP (H:Wf W):{ f // SX W 60 aD (dG ((aj 20).drop 19)) f }:=⟨_,
(n9 35 tb_g% (λenv eo=>mE eo tb_g% tb_g% tb_g%) tb_g% (aO 0 (H.bi tb_g% tb_g% tb_g%) H.v_range tb_g% bn (ad (ao aM (aP 0 (H.bi tb_g% tb_g% tb_g%) H.v_len tb_g% cq (ad (ac 22 tb_g%) ag) (by decide)) ai) ag) (by decide)) (ay 1 tb_g%) bS (ao aM (ao cD (ac 3 tb_g%) ai) (ac 1 tb_g%)) (aP 0 (H.bi tb_g% tb_g% tb_g%) H.v_len tb_g% cq (ad (aF (a0 tb_g% (cZ (ac 4 tb_g%)) (ay 1 tb_g%) (dl (aC ge (ac 1 tb_g%) (ac 2 tb_g%))) (ac 1 tb_g%))) ag) (by decide)))⟩
noncomputable def KO (H:Wf W):{ f // SX W 60 aD (dG ((aj 20).drop 18)) f }:=⟨_,
(am 34 tb_g% (aF (a0 tb_g% (aO 0 (H.bi tb_g% tb_g% tb_g%) H.v_range tb_g% bn (ad (ao zb ai (aP 0 (H.bi tb_g% tb_g% tb_g%) H.v_len tb_g% cq (ad (ac 22 tb_g%) ag) (by decide))) ag) (by decide)) (ay 1 tb_g%) bS (aP 2 (H.bi tb_g% tb_g% tb_g%) H.v_sum tb_g% sF (ad (aF (a0 tb_g% (aO 0 (H.bi tb_g% tb_g% tb_g%) H.v_range tb_g% bn (ad (aP 0 (H.bi tb_g% tb_g% tb_g%) H.v_len tb_g% cq (ad (ac 5 tb_g%) ag) (by decide)) ag) (by decide)) (ay 1 tb_g%) bS (ao eR (ao fF (ac 2 tb_g%) (ao zb ai (ac 1 tb_g%))) ai))) ag) (by decide)))) (λenv eo=>hH eo tb_g%))⟩
noncomputable def Jn (H:Wf W):{ f // SS W 60 aD ((aj 20).drop 18) f }:=⟨_,
(
 af (KO H).2
 (af (KP H).2
 (eY [35] (af (KQ H).2
 (eY [24] (af (KR H).2
 (DP (ia:=36) (ib:=37) (it:=38) (H.gl tb_g% tb_g% tb_g%) H.f3.o rfl H.i_insort_left (by decide) (H.gl tb_g% tb_g% tb_g%) H.f1.o rfl H.i_insort_right (by decide) tb_g% tb_g% tb_g% ai
 (eY [36,37] (af (KS H).2
 (af (KT H).2
 (Lh H).2))))))))))⟩
noncomputable def CQ (H:Wf W):{ f // SS W 60 aD ((cU 17 (aj 20)).drop 1) f }:=⟨_,
(
 eY [28] (af (am 29 tb_g% (aP 0 (H.bi tb_g% tb_g% tb_g%) H.v_len tb_g% cq (ad (aF (a0 tb_g% (cZ (ac 28 tb_g%)) (ay 1 tb_g%) (dl (aC ge (ac 1 tb_g%) ai)) (ac 1 tb_g%))) ag) (by decide)))
 (af (am 30 tb_g% (aP 0 (H.bi tb_g% tb_g% tb_g%) H.v_len tb_g% cq (ad (aF (a0 tb_g% (cZ (ac 22 tb_g%)) (ay 1 tb_g%) (dl (fx (lm (aC AX (i9 (ac 2 tb_g%) (ac 1 tb_g%)) ai) (lm (aC AX (au (ac 2 tb_g%) (ao cD (i9 (ac 2 tb_g%) (ac 1 tb_g%)) ai)) (ac 1 tb_g%)) CJ)))) (ac 1 tb_g%))) ag) (by decide)))
 (af (kT (H.v_insort_left 24 (H.gl tb_g% tb_g% tb_g%) tb_g% (ac 27 tb_g%) (by decide)))
 (af (fM 26 tb_g% (ac 29 tb_g%))
 (af (oc (names:=["stood","old","new"]) (ix:=[33,32,31]) tb_g% (iC (th 2 (H.bi tb_g% tb_g% tb_g%) H.v_dict tb_g% BS (ad (au (ac 25 tb_g%) ai) ag) (by decide)) (iC (au (ac 25 tb_g%) ai) (iC (aF (ti (ac 29 tb_g%) ai)) jh))) (λU=>rfl) (λU eo=>eB ["stood","old","new"] eo tb_g% tb_g% tb_g% tb_g% tb_g% tb_g% tb_g%))
 (af (am 25 tb_g% (H.c_add_func_stats  (H.gl tb_g% tb_g% tb_g%) (ad (ac 25 tb_g%) (ad (bA (ad (th 0 (H.bi tb_g% tb_g% tb_g%) H.v_int tb_g% ET (ad (mR ge (ac 29 tb_g%) (ac 21 tb_g%)) ag) (by decide)) (ad ai (ad (ac 29 tb_g%) (ad (dB (ac 30 tb_g%)) (ad (ac 33 tb_g%) ag)))))) ag)) (by w_fin)))
 (af (cN (Gh [26] (fx (cC (aC fA (ac 32 tb_g%) (ac 31 tb_g%)) (cC (aC fA (ac 33 tb_g%) (aF (ti (ac 29 tb_g%) ai))) (cC (aC fA (aF (kQ 2 (H.bi tb_g% tb_g% tb_g%) H.v_list tb_g% lc (ad (au (ac 25 tb_g%) ai) ag) (by decide))) (aF (a0 tb_g% (aO 0 (H.bi tb_g% tb_g% tb_g%) H.v_enumerate tb_g% gA (ad (ac 26 tb_g%) ag) (by decide)) (cz 1 2 tb_g% tb_g%) (dl (aC oF (ac 2 tb_g%) (bu (ac 3 tb_g%) bg (bJ (ac 1 tb_g%)) bg))) (ac 2 tb_g%)))) ke))))) (af (b8 cX)
 ak) ak)
 (af (cN (fx (cC (aC fA (ac 28 tb_g%) (aF (a0 tb_g% (aO 0 (H.bi tb_g% tb_g% tb_g%) H.v_range tb_g% bn (ad ai ag) (by decide)) (ay 1 tb_g%) bS (wu (aC AX (au (ac 2 tb_g%) (ac 1 tb_g%)) (au (ac 2 tb_g%) (ao aM (ac 1 tb_g%) ai))) ai (dB ai))))) (cC (aC fA (ac 29 tb_g%) (ao aM (ao cD (ac 21 tb_g%) ai) (ac 30 tb_g%))) ke))) (af (b8 cX)
 ak) ak)
 ak)))))))))⟩
noncomputable def Xs (H:Wf W):{ f // SX W 60 aD (dG (cU 17 (aj 20))) f }:=⟨_,
(ie 28 tb_g% (λenv eo=>fX eo tb_g% tb_g% tb_g%) tb_g% (aO 0 (H.bi tb_g% tb_g% tb_g%) H.v_range tb_g% bn (ad ai ag) (by decide)) (ay 1 tb_g%) bS (H.compare 2 tb_g% (ad (au (ac 4 tb_g%) (au (ac 3 tb_g%) (ac 1 tb_g%))) (ad (au (ac 4 tb_g%) (au (ac 3 tb_g%) (ao aM (ac 1 tb_g%) ai))) ag)) (by decide)))⟩
noncomputable def Le (H:Wf W):{ f // SS W 60 aD (cU 17 (aj 20)) f }:=⟨_,
(
 af (Xs H).2
 (CQ H).2)⟩
noncomputable def Jp (H:Wf W):{ f // SX W 60 aD (dG ((aj 20).drop 17)) f }:=⟨_,
(el (cZ (ac 23 tb_g%)) (ay 27 tb_g%) (Le H).2)⟩
noncomputable def Jm (H:Wf W):{ f // SS W 60 aD ((aj 20).drop 17) f }:=⟨_,
(
 pD tb_g% (Jp H).2
 (Jn H).2)⟩
noncomputable def KN (H:Wf W):{ f // SX W 60 aD (dG ((aj 20).drop 16)) f }:=⟨_,
(pF (names:=["rows","line","book","tale"]) (ix:=[23,24,25,26]) tb_g% (iC (H.c_law_rows  (H.gl tb_g% tb_g% tb_g%) (ad (ac 10 tb_g%) (ad (ac 22 tb_g%) ag)) (by w_fin)) (kF (bY ag) (iC (bA (ad ai (ad ai (ad ai (ad ai (ad (aF n6) ag)))))) (kF (bY ag) jh)))) (λenv=>(.cons (bQ _ _ _) (.cons (bQ _ _ _) (.cons (bQ _ _ _) (.cons (bQ _ _ _) .nil))))) (λU=>rfl) (λU=>rfl) (λU eo=>rfl))⟩
noncomputable def KM (H:Wf W):{ f // SX W 60 aD (dG ((aj 20).drop 15)) f }:=⟨_,
(
 cN (fx (cC (aC fA (aP 0 (H.bi tb_g% tb_g% tb_g%) H.v_len tb_g% cq (ad (ac 22 tb_g%) ag) (by decide)) (ao cD ai (ao iu ai (ac 21 tb_g%)))) (cC (aC fA (aF (a0 tb_g% (cZ (ac 22 tb_g%)) (ay 1 tb_g%) (dl (aC fA (H.c_law_hop  (H.gl tb_g% tb_g% tb_g%) (ad (H.c_law_hop  (H.gl tb_g% tb_g% tb_g%) (ad (ac 3 tb_g%) (ad (ac 1 tb_g%) ag)) (by w_fin)) (ad (ac 1 tb_g%) ag)) (by w_fin)) (ac 3 tb_g%))) (ac 1 tb_g%))) (aF (bY ag))) ke))) (af (b8 cX)
 ak) ak)⟩
noncomputable def KL (H:Wf W):{ f // SX W 60 aD (dG ((aj 20).drop 14)) f }:=⟨_,
(am 22 tb_g% (aF (a0 tb_g% (aO 0 (H.bi tb_g% tb_g% tb_g%) H.v_range tb_g% bn (ad ai ag) (by decide)) (ay 1 tb_g%) (dl (aC fA (mR ge (au (au (ac 3 tb_g%) (ac 1 tb_g%)) ai) (ac 1 tb_g%)) (mR ge (au (au (ac 3 tb_g%) (ac 1 tb_g%)) ai) (ac 1 tb_g%)))) (au (ac 2 tb_g%) (ac 1 tb_g%)))) (λenv eo=>hH eo tb_g%))⟩
noncomputable def KK (H:Wf W):{ f // SX W 60 aD (dG ((aj 20).drop 13)) f }:=⟨_,
(am 21 tb_g% (aP 0 (H.bi tb_g% tb_g% tb_g%) H.v_len tb_g% cq (ad (aF (a0 tb_g% (aO 0 (H.bi tb_g% tb_g% tb_g%) H.v_range tb_g% bn (ad ai ag) (by decide)) (ay 1 tb_g%) (dl (aC ge (au (ac 2 tb_g%) (ac 1 tb_g%)) (bA (ad (ac 1 tb_g%) (ad (ac 1 tb_g%) ag))))) (ac 1 tb_g%))) ag) (by decide)))⟩
noncomputable def KJ (H:Wf W):{ f // SX W 60 aD (dG ((aj 20).drop 12)) f }:=⟨_,
(am 20 tb_g% (aF (a0 tb_g% (aO 0 (H.bi tb_g% tb_g% tb_g%) H.v_range tb_g% bn (ad ai ag) (by decide)) (ay 1 tb_g%) bS (H.c_law_stretch  (H.gl tb_g% tb_g% tb_g%) (ad (ac 3 tb_g%) (ad (ac 1 tb_g%) ag)) (by w_fin)))) (λenv eo=>hH eo tb_g%))⟩
noncomputable def CP (H:Wf W):{ f // SS W 60 aD ((aj 20).drop 12) f }:=⟨_,
(
 wC [9,11,12,18,19,2,16] (eY [10] (pD tb_g% (KJ H).2
 (pD tb_g% (KK H).2
 (pD tb_g% (KL H).2
 (pD tb_g% (KM H).2
 (pD tb_g% (KN H).2
 (Jm H).2)))))))⟩
noncomputable def Xw (H:Wf W):{ f // SX W 60 aD (dG ((cU 11 (aj 20)).drop 5)) f }:=⟨_,
(am 11 tb_g% (ao fF (ac 11 tb_g%) (ac 2 tb_g%)))⟩
noncomputable def Xv (H:Wf W):{ f // SX W 60 aD (dG ((cU 11 (aj 20)).drop 4)) f }:=⟨_,
(
 cN (aC fA (aF (bY (ad (ac 18 tb_g%) (ad (ac 19 tb_g%) ag)))) (aF (a0 tb_g% (cZ (bA (ad (au (ac 10 tb_g%) (dB ai)) (ad (ao aM (au (ac 10 tb_g%) (dB ai)) ai) ag)))) (ay 1 tb_g%) bS (aF (a0 tb_g% (aO 0 (H.bi tb_g% tb_g% tb_g%) H.v_range tb_g% bn (ad ai ag) (by decide)) (ay 1 tb_g%) bS (aP 2 (H.bi tb_g% tb_g% tb_g%) H.v_max tb_g% sE (ad (ac 1 tb_g%) (ad (aP 2 (H.bi tb_g% tb_g% tb_g%) H.v_min tb_g% mf (ad (ao cD ai (ac 1 tb_g%)) (ad (ac 4 tb_g%) ag)) (by decide)) ag)) (by decide))))))) (af (b8 cX)
 ak) ak)⟩
noncomputable def Xu (H:Wf W):{ f // SX W 60 aD (dG ((cU 11 (aj 20)).drop 3)) f }:=⟨_,
(ie 19 tb_g% (λenv eo=>fX eo tb_g% tb_g% tb_g%) tb_g% (aO 0 (H.bi tb_g% tb_g% tb_g%) H.v_range tb_g% bn (ad ai ag) (by decide)) (ay 1 tb_g%) bS (H.k4_bisect_right (H.gl tb_g% tb_g% tb_g%) (ad (ac 5 tb_g%) (ad ai (ad (ac 1 tb_g%) (ad (ao cD ai (ac 1 tb_g%)) ag)))) (fL (k:=7) (pnames:=["kept"]) (ix:=[0]) (153,151,"law.<locals>.<lambda>") rfl (H.lam _ tb_g%) tb_g% tb_g% tb_g% (λU=>rfl) (λU U U U U=>l1 λU=>rfl) tb_g% (H.compare 1 tb_g% (ad (ac 0 tb_g%) (ad (ac 2 tb_g%) ag)) (by decide)) (by decide)) (by decide) (ey (ey (ey (ey l6))))))⟩
noncomputable def Xt (H:Wf W):{ f // SX W 60 aD (dG ((cU 11 (aj 20)).drop 2)) f }:=⟨_,
(ie 18 tb_g% (λenv eo=>fX eo tb_g% tb_g% tb_g%) tb_g% (aO 0 (H.bi tb_g% tb_g% tb_g%) H.v_range tb_g% bn (ad ai ag) (by decide)) (ay 1 tb_g%) bS (H.k4_bisect_left (H.gl tb_g% tb_g% tb_g%) (ad (ac 5 tb_g%) (ad ai (ad (ac 1 tb_g%) (ad (ao cD ai (ac 1 tb_g%)) ag)))) (fL (k:=7) (pnames:=["kept"]) (ix:=[0]) (153,151,"law.<locals>.<lambda>") rfl (H.lam _ tb_g%) tb_g% tb_g% tb_g% (λU=>rfl) (λU U U U U=>l1 λU=>rfl) tb_g% (H.compare 1 tb_g% (ad (ac 0 tb_g%) (ad (ac 2 tb_g%) ag)) (by decide)) (by decide)) (by decide) (ey (ey (ey (ey l6))))))⟩
noncomputable def Xq (H:Wf W):{ f // SX W 60 aD (dG ((cU 11 (aj 20)).drop 1)) f }:=⟨_,
(fM 10 tb_g% (i9 (ac 13 tb_g%) (au (ac 12 tb_g%) ai)))⟩
noncomputable def Xp (H:Wf W):{ f // SX W 60 aD (dG (cU 11 (aj 20))) f }:=⟨_,
(wL 12 9 tb_g% tb_g% (ao eR (ac 11 tb_g%) (ac 2 tb_g%)))⟩
noncomputable def F3 (H:Wf W):{ f // SS W 60 aD (cU 11 (aj 20)) f }:=⟨_,
(
 af (Xp H).2
 (af (Xq H).2
 (af (Xt H).2
 (af (Xu H).2
 (eY [18,19] (af (Xv H).2
 (af (Xw H).2
 ak)))))))⟩
noncomputable def DY (H:Wf W):{ f // SX W 60 aD (dG ((aj 20).drop 11)) f }:=⟨_,
(el (aO 0 (H.bi tb_g% tb_g% tb_g%) H.v_range tb_g% bn (ad ai (ad ai (ad (dB ai) ag))) (by decide)) (ay 2 tb_g%) (F3 H).2)⟩
noncomputable def Jo (H:Wf W):{ f // SX W 60 aD (dG ((aj 20).drop 10)) f }:=⟨_,
(
 cN (fx (cC (aC fA (ac 16 tb_g%) (bU [108,111,32,109,117,115,116,32,98,101,32,110,111,110,45,110,101,103,97,116,105,118,101] tb_g%)) (cC (aC fA (aF (a0 tb_g% (cZ (ac 46 tb_g%)) (ay 1 tb_g%) bS (au (ac 1 tb_g%) ai))) (ac 13 tb_g%)) ke))) (af (b8 cX)
 ak) ak)⟩
noncomputable def X9 (H:Wf W):{ f // CO W (some []) 60 aD (dG ((aj 20).drop 9)) f }:=⟨_,
(H.tryR 16 15 (H.gl tb_g% tb_g% tb_g%) (by decide) (ad (ac 46 tb_g%) (ad ai (ad (ao cD (dB ai) (ao eR (au (ac 1 tb_g%) ai) ai)) (ad ai ag)))) (fL (k:=7) (pnames:=["kept"]) (ix:=[0]) (153,151,"law.<locals>.<lambda>") rfl (H.lam _ tb_g%) tb_g% tb_g% tb_g% (λU=>rfl) (λU U U U U=>l1 λU=>rfl) tb_g% (H.compare 1 tb_g% (ad (ac 0 tb_g%) (ad (au (ac 2 tb_g%) ai) ag)) (by decide)) (by decide)) (ey (ey (ey (ey l6)))) (H.bi tb_g% tb_g% tb_g%) (H.bi tb_g% tb_g% tb_g%) tb_g% tb_g% (by decide) tb_g% tb_g% tb_g%)⟩
noncomputable def B8 (H:Wf W):{ f // SS W 60 aD (cU 8 (aj 20)) f }:=⟨_,
(
 af (am 14 tb_g% (fL (k:=7) (pnames:=["kept"]) (ix:=[0]) (153,151,"law.<locals>.<lambda>") rfl (H.lam _ tb_g%) tb_g% tb_g% tb_g% (λU=>rfl) (λU U U U U=>l1 λU=>rfl) tb_g% (H.compare 1 tb_g% (ad (ac 0 tb_g%) (ad (ac 2 tb_g%) ag)) (by decide)) (by decide)))
 (af (kT (Gi (wG (ac 8 tb_g%)) (H.u_insort_left 46 14 (H.gl tb_g% tb_g% tb_g%) tb_g% tb_g% (ac 12 tb_g%) (by decide)) (H.u_insort_right 46 14 (H.gl tb_g% tb_g% tb_g%) tb_g% tb_g% (ac 12 tb_g%) (by decide))))
 ak))⟩
noncomputable def X8 (H:Wf W):{ f // SX W 60 aD (dG ((aj 20).drop 8)) f }:=⟨_,
(el (cZ (wu (wG (ac 8 tb_g%)) (bu (ac 9 tb_g%) bg bg (bJ (dB (ac 7 tb_g%)))) (bu (ac 9 tb_g%) bg bg (bJ (ac 7 tb_g%))))) (ay 12 tb_g%) (B8 H).2)⟩
noncomputable def X7 (H:Wf W):{ f // SX W 60 aD (dG ((aj 20).drop 7)) f }:=⟨_,
(am 13 tb_g% (aF (F9 [9] (a0 tb_g% (cZ (aF (kP 2 (H.bi tb_g% tb_g% tb_g%) H.v_sorted tb_g% mh (ad (aF (a0 tb_g% (aO 0 (H.bi tb_g% tb_g% tb_g%) H.v_enumerate tb_g% gA (ad (ac 9 tb_g%) ag) (by decide)) (cz 1 2 tb_g% tb_g%) bS (bA (ad (ao iu (au (ac 2 tb_g%) ai) (ac 4 tb_g%)) (ad (ao iu (ac 1 tb_g%) (ac 3 tb_g%)) (ad (au (ac 2 tb_g%) ai) ag)))))) ag) (by decide)))) (ay 1 tb_g%) bS (au (ac 1 tb_g%) ai)))) (λenv eo=>hH eo tb_g%))⟩
noncomputable def X6 (H:Wf W):{ f // SX W 60 aD (dG ((aj 20).drop 6)) f }:=⟨_,
(pF (names:=["things","row","v"]) (ix:=[9,10,11]) tb_g% (kF (a0 tb_g% (aO 0 (H.bi tb_g% tb_g% tb_g%) H.v_enumerate tb_g% gA (ad (bU [97,98,99,100,101] tb_g%) ag) (by decide)) (cz 1 2 tb_g% tb_g%) bS (bA (ad (ao eR (au (ac 3 tb_g%) (ac 1 tb_g%)) ai) (ad (ac 2 tb_g%) ag)))) (kF (bY ag) (iC (au (ac 1 tb_g%) ai) jh))) (λenv=>(.cons (bQ _ _ _) (.cons (bQ _ _ _) (.cons (bQ _ _ _) .nil)))) (λU=>rfl) (λU=>rfl) (λU eo=>gD eo tb_g%))⟩
noncomputable def X5 (H:Wf W):{ f // SX W 60 aD (dG ((aj 20).drop 5)) f }:=⟨_,
(pF (names:=["comp","flat","shelf"]) (ix:=[44,45,46]) tb_g% (iC (H.new (H.gl tb_g% tb_g% tb_g%) (bA (ad (bA (ad ai (ad (ac 6 tb_g%) ag))) (ad (bA (ad ai (ad (ac 7 tb_g%) ag))) ag)))) (iC (H.new (H.gl tb_g% tb_g% tb_g%) (bA (ad (bA (ad ai (ad (ac 6 tb_g%) ag))) ag))) (kF (bY ag) jh))) (λenv=>(.cons (bQ _ _ _) (.cons (bQ _ _ _) (.cons (bQ _ _ _) .nil)))) (λU=>rfl) (λU=>rfl) (λU eo=>gD eo tb_g%))⟩
noncomputable def X4 (H:Wf W):{ f // SX W 60 aD (dG ((aj 20).drop 4)) f }:=⟨_,
(pF (names:=["down","back","left"]) (ix:=[6,7,8]) tb_g% (iC (ao cD ai (ao iu (ao eR (au (ac 1 tb_g%) ai) ai) ai)) (iC (ao cD ai (ao iu (ao eR (ao fF (au (ac 1 tb_g%) ai) ai) ai) ai)) (iC (mR ge (ao eR (ao fF (au (ac 1 tb_g%) ai) ai) ai) ai) jh))) (λenv=>(.cons (bQ _ _ _) (.cons (bQ _ _ _) (.cons (bQ _ _ _) .nil)))) (λU=>rfl) (λU=>rfl) (λU eo=>gD eo tb_g%))⟩
noncomputable def X3 (H:Wf W):{ f // SX W 60 aD (dG ((aj 20).drop 3)) f }:=⟨_,
(n9 5 tb_g% (λenv eo=>mE eo tb_g% tb_g% tb_g%) tb_g% (aO 0 (H.bi tb_g% tb_g% tb_g%) H.v_enumerate tb_g% gA (ad (bU [97,98,99,100,101] tb_g%) ag) (by decide)) (cz 1 2 tb_g% tb_g%) bS (ac 2 tb_g%) (au (ac 4 tb_g%) (ao eR (ao fF (au (ac 3 tb_g%) (ac 1 tb_g%)) ai) ai)))⟩
noncomputable def X2 (H:Wf W):{ f // SX W 60 aD (dG ((aj 20).drop 2)) f }:=⟨_,
(am 4 tb_g% (aF (bY (ad (bU [] tb_g%) (ad (bU [92,40] tb_g%) (ad (bU [92,41] tb_g%) (ad (bU [34,41,34] tb_g%) (ad (bU [34,40,92,34,40,34] tb_g%) (ad (bU [92,92] tb_g%) ag)))))))))⟩
noncomputable def B1 (H:Wf W):{ f // SS W 60 aD (cU 1 (aj 20)) f }:=⟨_,
(
 af (pE 1 tb_g% la (ao eR (ac 2 tb_g%) ai) (ao eR (ac 3 tb_g%) ai))
 ak)⟩
noncomputable def X1 (H:Wf W):{ f // SX W 60 aD (dG ((aj 20).drop 1)) f }:=⟨_,
(el (aO 0 (H.bi tb_g% tb_g% tb_g%) H.v_enumerate tb_g% gA (ad (bu (ac 0 tb_g%) bg (bJ ai) bg) ag) (by decide)) (cz 2 3 tb_g% tb_g%) (B1 H).2)⟩
noncomputable def X0 (H:Wf W):{ f // SX W 60 aD (dG (aj 20)) f }:=⟨_,
(tn 1 tb_g% (bY (ad ai (ad ai (ad ai (ad ai (ad ai (ad ai (ad ai ag)))))))))⟩
noncomputable def AZ {Fr} {bs:List Stmt} (hl:Nat.blt 11 bs.length=true) (x0:{ f // SX W 60 aD (dG bs) f }) (x1:{ f // SX W 60 aD (dG (bs.drop 1)) f }) (x2:{ f // SX W 60 aD (dG (bs.drop 2)) f }) (x3:{ f // SX W 60 aD (dG (bs.drop 3)) f }) (x4:{ f // SX W 60 aD (dG (bs.drop 4)) f }) (x5:{ f // SX W 60 aD (dG (bs.drop 5)) f }) (x6:{ f // SX W 60 aD (dG (bs.drop 6)) f }) (x7:{ f // SX W 60 aD (dG (bs.drop 7)) f }) (x8:{ f // SX W 60 aD (dG (bs.drop 8)) f }) (x9:{ f // CO W Fr 60 aD (dG (bs.drop 9)) f }) (x10:{ f // SX W 60 aD (dG (bs.drop 10)) f }) (x11:{ f // SX W 60 aD (dG (bs.drop 11)) f }) (t:{ f // SS W 60 aD (bs.drop 12) f }):{ f // rG W Fr 60 aD bs f }:=⟨_,
have h (k) (hk:k<12):Nat.blt k bs.length=true:=Nat.blt_eq.mpr (Nat.lt_of_le_of_lt (Nat.le_of_lt_succ hk) (Nat.blt_eq.mp hl))
(
 Gg (h 0 (by decide)) (SX.f x0.2)
 (iI (h 1 (by decide)) (SX.f x1.2)
 (DR [0,2,3] (rI [1] (iI (h 2 (by decide)) (SX.f x2.2)
 (iI (h 3 (by decide)) (SX.f x3.2)
 (rI [5] (iI (h 4 (by decide)) (SX.f x4.2)
 (iI (h 5 (by decide)) (SX.f x5.2)
 (iI (h 6 (by decide)) (SX.f x6.2)
 (iI (h 7 (by decide)) (SX.f x7.2)
 (iI (h 8 (by decide)) (SX.f x8.2)
 (rI [46] (iI (h 9 (by decide)) x9.2
 (SS.f (wC [4,6,7,8,12,14,15,45] (pD (h 10 (by decide)) x10.2
 (pD (h 11 (by decide)) x11.2
 t.2))))))))))))))))))⟩
noncomputable def CM (H:Wf W):{ f // rG W (some []) 60 aD (aj 20) f }:=AZ tb_g% (X0 H) (X1 H) (X2 H) (X3 H) (X4 H) (X5 H) (X6 H) (X7 H) (X8 H) (X9 H) (Jo H) (DY H) (CP H)
theorem JU (H:Wf W) {A s μ vs ds r} (hfr:A.frames=some []) (hA:cf 61 A) (g:GI W s) (ex:Ex s μ) (hv:ae W (fz W s.heap μ) vs ds) (h:fC (bC aD [0] (CM H).1) ds=some r):wpAny W.M A (call (.ref 154) vs) (PD W μ s r) (λU U=>False) s:=by
 obtain ⟨m,tok,F⟩:=H.f20.at tb_g%
 have hl:vs.length=1:=hv.length.trans (cI (names:=["script"]) tb_g% ds r h)
 have hb:rG W A.frames 60 aD (aj 20) (CM H).1:=by rw [hfr];exact (CM H).2
 refine wpAny_call (codeAny_mono (jq F rfl tb_g% (names:=["script"]) tb_g% hb (by intro t h;w_cond h;exact ⟨rfl,show ("law":Str)++Str.ofString ".<locals>."++Str.ofString "<lambda>"="law.<locals>.<lambda>" by decide +kernel⟩) (μ:=μ) (ν:=[]) (λA E Q q=>by
  obtain ⟨v,rfl⟩:∃ v,vs=[v]:=by
   cases vs with
   | nil=>w_cond hl
   | cons v vs=>exact ⟨v,by rw [List.length_eq_zero_iff.mp (Nat.succ.inj hl)]⟩
  exact wpAny_of_eq (by rfl) q) hl hA g ex (λb hb=>by w_cond hb) (λb hb=>by w_cond hb) (aS.of_data hv) (c7 h)) λr s' y=>?_)
 obtain ⟨v,rfl,hvr,gr⟩:=y
 exact ⟨hvr,gr⟩
noncomputable def IL (cells pieces things row v one names words told past ways alone free rows line book tale tales comp shelf:SV):List SV:=
 [.u,cells,.u,.u,.u,pieces,.u,.u,.u,things,row,v,one,names,.u,.u,words,.u,told,past,ways,alone,free,rows,line,book,tale,.u,.u,.u,
  .u,.u,.u,.u,.u,.u,.u,.u,.u,tales,.u,.u,.u,.u,comp,.u,shelf,.u,.u,.u,.u,.u,.u,.u,.u,.u,.u,.u,.u,.u,.u,.u,.u,.u,.u,.u,.u,.u]
noncomputable def Ec (r:List Nat):Nat:=(List.range 5).countP λi=>Nat.beq (fW r i).1 i&&Nat.beq (fW r i).2 i
noncomputable def Dg (r:List Nat):List Nat:=(List.range 5).filterMap λi=>if (Nat.beq (fW r i).1 i)==(Nat.beq (fW r i).2 i) then none else some (r.getD i 0)
noncomputable def Fm (r:List Nat) (fr:List Nat):List (List Nat):=fr.foldl (λrows x=>rows++rows.map λq=>By q x) [r]
noncomputable def cW (r:List Nat):List (List Nat):=Fm r (Dg r)
noncomputable def jC (l:List (List Nat)):PV:= .list (l.map bH)
noncomputable def Ap (cells pieces names comp shelf:PV) (r:List Nat):List SV:=
 IL (.d cells) (.d pieces) .u (.d (bH r)) .u .u (.d names) .u .u .u (.d (.list ((List.range 5).map (Iq r)))) (.d (iP (Ec r))) (.d (bH (Dg r))) (.d (jC (cW r))) (.own (.list [])) (.d (.tuple [iP 0,iP 0,iP 0,iP 0,.dS [] []])) (.own (.list [])) .u (.obj cQ comp) (.d shelf)
noncomputable abbrev bO:=List SV->Option (List SV×Fl)
noncomputable def Fn (H:Wf W) (k:bO):bO:=aV (KJ H).1 (aV (KK H).1 (aV (KL H).1 (aV (KM H).1 (aV (KN H).1 k))))
noncomputable def Cg (cells pieces names comp shelf:PV) (r:List Nat):List SV:=
 IL (.d cells) (.d pieces) .u (.d (bH r)) .u .u (.d names) .u .u .u .u .u .u .u .u .u .u .u (.obj cQ comp) (.d shelf)
theorem zR (H) (k:bO) (cells pieces names comp shelf:PV):an.map (λr=>Fn H k (Cg cells pieces names comp shelf r))=an.map λr=>k (Ap cells pieces names comp shelf r):=by kernel_rfl
noncomputable def Ft:List Nat->List PV
 | a::b::l=> .int (if Nat.blt b a then 1 else -1)::Ft (b::l)
 | _=>[]
noncomputable def AM (st:List SV):Option (List SV×Fl):=((dy (rd st 27)).bind vV).map λr=>(cF aD st 28 (.own (.list (Ft r))),.next)
noncomputable def D5 (H:Wf W) (xs:bO) (st:List SV):Option (List SV×Fl):=((de (λst=>rd st 23) st).bind gI).bind λrs=>d7 (λst d=>some (cF aD st 27 (.d d))) (aV xs (CQ H).1) rs st
noncomputable def Jz (st:List SV):List SV:=jT [20,21,22,24,25,26,27,28,29,30,31,32,33,34,35,36,37,38,17,44,46] st
noncomputable def uT (H:Wf W) (k:bO):bO:=aV (KO H).1 (aV (KP H).1 (λst=>(dH [35] st).bind (aV (KQ H).1 (λst=>(dH [24] st).bind (aV (KR H).1 (λst=>(K1 36 37 38 (ba eT false (.d .none)) (ba eU true (.d .none)) (λU=>some (.d (.int 5))) st).bind (λst=>(dH [36,37] st).bind (aV (KS H).1 (aV (KT H).1 λst=>k (Jz st))))))))))
noncomputable def HF (H:Wf W):bO:=aV (IO H).1 (aV (IP H).1 λst=>some (st,.next))
theorem DW (H:Wf W):(Jn H).1=uT H (HF H):=by kernel_rfl
theorem DV (H:Wf W):(Jm H).1=aV (Jp H).1 (Jn H).1:=by kernel_rfl
theorem D0 (H:Wf W):(Jp H).1=D5 H (Xs H).1:=by kernel_rfl
theorem DT (H:Wf W):(CP H).1=λst=>(dH [10] (jT [9,11,12,18,19,2,16] st)).bind (Fn H (Jm H).1):=by kernel_rfl
noncomputable def Aq (cells pieces names:PV) (r:List Nat):List SV:=
 IL (.d cells) (.d pieces) .u (.d (bH r)) .u .u (.d names) .u .u .u .u .u .u (.d (jC (cW r))) .u .u .u (.own (.list [])) .u .u
noncomputable def vC (H:Wf W) (q:Option SV->Option SV->Option SV->Bool) (k:bO):List PV->bO
 | [],st=>k st
 | x::xs,st=>cond (q (cn (cF aD st 27 (.d x)) 44) (cn (cF aD st 27 (.d x)) 46) (cn (cF aD st 27 (.d x)) 27)) (aV (aV AM (CQ H).1) (vC H q k xs) (cF aD st 27 (.d x))) none
noncomputable def Ih (H:Wf W) (q:Option SV->Option SV->Option SV->Bool) (k:bO) (st:List SV):Option (List SV×Fl):=((de (λst=>rd st 23) st).bind gI).bind λrs=>vC H q (uT H k) rs st
noncomputable def nG (q:Option SV->Bool) (o:Option (List SV×Fl)):List (List Nat)->Option (List SV×Fl)
 | []=>o
 | x::xs=>cond (q (some (.d (bH x)))) (nG q o xs) none
def ew (H:Wf W) (q:Option SV->Option SV->Option SV->Bool) (k:bO) (cells pieces names comp shelf:PV) (l:List (List Nat)):Prop:=l.map (λr=>Ih H q k (Ap cells pieces names comp shelf r))=l.map λr=>nG (q (some (.obj cQ comp)) (some (.d shelf))) (k (Aq cells pieces names r)) (cW r)
theorem J2 (H q k cells pieces names comp shelf):ew H q k cells pieces names comp shelf ((an.drop 0).take 10):=by unfold ew;kernel_rfl
theorem J3 (H q k cells pieces names comp shelf):ew H q k cells pieces names comp shelf ((an.drop 10).take 10):=by unfold ew;kernel_rfl
theorem J4 (H q k cells pieces names comp shelf):ew H q k cells pieces names comp shelf ((an.drop 20).take 10):=by unfold ew;kernel_rfl
theorem J5 (H q k cells pieces names comp shelf):ew H q k cells pieces names comp shelf ((an.drop 30).take 10):=by unfold ew;kernel_rfl
theorem J6 (H q k cells pieces names comp shelf):ew H q k cells pieces names comp shelf ((an.drop 40).take 10):=by unfold ew;kernel_rfl
theorem J7 (H q k cells pieces names comp shelf):ew H q k cells pieces names comp shelf ((an.drop 50).take 10):=by unfold ew;kernel_rfl
theorem J8 (H q k cells pieces names comp shelf):ew H q k cells pieces names comp shelf ((an.drop 60).take 10):=by unfold ew;kernel_rfl
theorem J9 (H q k cells pieces names comp shelf):ew H q k cells pieces names comp shelf ((an.drop 70).take 10):=by unfold ew;kernel_rfl
theorem Ka (H q k cells pieces names comp shelf):ew H q k cells pieces names comp shelf ((an.drop 80).take 10):=by unfold ew;kernel_rfl
theorem Kb (H q k cells pieces names comp shelf):ew H q k cells pieces names comp shelf ((an.drop 90).take 10):=by unfold ew;kernel_rfl
theorem Ic (H q k cells pieces names comp shelf):ew H q k cells pieces names comp shelf ((an.drop 100).take 10):=by unfold ew;kernel_rfl
theorem Id (H q k cells pieces names comp shelf):ew H q k cells pieces names comp shelf ((an.drop 110).take 10):=by unfold ew;kernel_rfl
theorem aQ {α β:Type} {f g:α->β} {l:List α} (h:l.map f=l.map g) {a} (ha:a∈l):f a=g a:=List.map_inj_left.mp h a ha
theorem Cb (H) (k:bO) (cells pieces names comp shelf:PV) {r} (hr:r∈an):Fn H k (Cg cells pieces names comp shelf r)=k (Ap cells pieces names comp shelf r):=aQ (zR H k cells pieces names comp shelf) hr
theorem bB {α:Type} {a:α} {l:List α} (n m:Nat) (h:a∈l.drop n):a∈(l.drop n).take m∨a∈l.drop (n + m):=by
 rw [<-List.drop_drop,<-List.mem_append,List.take_append_drop]
 exact h
theorem Cc (H q k cells pieces names comp shelf) {r} (hr:r∈an):Ih H q k (Ap cells pieces names comp shelf r)=nG (q (some (.obj cQ comp)) (some (.d shelf))) (k (Aq cells pieces names r)) (cW r):=by
 have hr:r∈an.drop 0:=hr
 rcases bB 0 10 hr with h | hr
 ·exact aQ (J2 H q k cells pieces names comp shelf) h
 rcases bB 10 10 hr with h | hr
 ·exact aQ (J3 H q k cells pieces names comp shelf) h
 rcases bB 20 10 hr with h | hr
 ·exact aQ (J4 H q k cells pieces names comp shelf) h
 rcases bB 30 10 hr with h | hr
 ·exact aQ (J5 H q k cells pieces names comp shelf) h
 rcases bB 40 10 hr with h | hr
 ·exact aQ (J6 H q k cells pieces names comp shelf) h
 rcases bB 50 10 hr with h | hr
 ·exact aQ (J7 H q k cells pieces names comp shelf) h
 rcases bB 60 10 hr with h | hr
 ·exact aQ (J8 H q k cells pieces names comp shelf) h
 rcases bB 70 10 hr with h | hr
 ·exact aQ (J9 H q k cells pieces names comp shelf) h
 rcases bB 80 10 hr with h | hr
 ·exact aQ (Ka H q k cells pieces names comp shelf) h
 rcases bB 90 10 hr with h | hr
 ·exact aQ (Kb H q k cells pieces names comp shelf) h
 rcases bB 100 10 hr with h | hr
 ·exact aQ (Ic H q k cells pieces names comp shelf) h
 rcases bB 110 10 hr with h | hr
 ·exact aQ (Id H q k cells pieces names comp shelf) h
 rw [show an.drop 120=[] by decide +kernel] at hr
 w_cond hr
theorem Fk {f:Option (List SV×Fl)} {g:bO} {st v} (h:uE f g=some (st,.ret v)):f=some (st,.ret v)∨∃ st',f=some (st',.next)/\g st'=some (st,.ret v):=by
 cases f with
 | none=>w_cond h
 | some o=>
  obtain ⟨st',fl⟩:=o
  cases fl with
  | next=>exact .inr ⟨st',rfl,h⟩
  | brk=>w_cond h
  | ret w=>exact .inl h
theorem aW {f g:bO} {st}:aV f g st=uE (f st) g:=rfl
theorem xK {ftg fb x xs st}:d7 ftg fb (x::xs) st=(ftg st x).bind λst1=>AO (d7 ftg fb xs) (fb st1):=rfl
theorem Bu {H q k st' v} (hq:∀ st,q (cn st 44) (cn st 46) (cn st 27)=true->(Xs H).1 st=AM st):∀ {rs st},vC H q k rs st=some (st',.ret v)->aV (d7 (λst d=>some (cF aD st 27 (.d d))) (aV (Xs H).1 (CQ H).1) rs) k st=some (st',.ret v):=by
 intro rs
 induction rs with
 | nil=>intro st h;exact h
 | cons x rs ih=>
  intro st h
  have e1:vC H q k (x::rs) st=cond (q (cn (cF aD st 27 (.d x)) 44) (cn (cF aD st 27 (.d x)) 46) (cn (cF aD st 27 (.d x)) 27)) (aV (aV AM (CQ H).1) (vC H q k rs) (cF aD st 27 (.d x))) none:=rfl
  rw [e1] at h
  have hx:=hq (cF aD st 27 (.d x))
  rw [aW,xK,Option.bind_some]
  generalize cF aD st 27 (.d x)=st1 at h hx ⊢
  generalize hb:q (cn st1 44) (cn st1 46) (cn st1 27)=b at h hx
  cases b with
  | false=>w_cond h
  | true=>
   have e2:aV (Xs H).1 (CQ H).1 st1=aV AM (CQ H).1 st1:=by rw [aW,aW,hx rfl]
   rw [cond_true,aW] at h
   rw [e2]
   rcases Fk h with h | ⟨st2,h1,h2⟩
   ·rw [h];rfl
   ·rw [h1];exact ih h2
def QX (H:Wf W) (a b c:Option SV):Prop:=∀ st,cn st 44=a->cn st 46=b->cn st 27=c->(Xs H).1 st=AM st
noncomputable def qX (H:Wf W) (a b c:Option SV):Bool:=@decide (QX H a b c) (Classical.propDecidable _)
theorem zI {H:Wf W} {a b c}:qX H a b c=true↔∀ st,cn st 44=a->cn st 46=b->cn st 27=c->(Xs H).1 st=AM st:=@decide_eq_true_iff (QX H a b c) (Classical.propDecidable _)
theorem Kc (H:Wf W) {k cells pieces names comp shelf r st' v} (hr:r∈an)
  (hs:∀ x∈cW r,∀ st,cn st 44=some (.obj cQ comp)->cn st 46=some (.d shelf)->cn st 27=some (.d (bH x))->(Xs H).1 st=AM st)
  (hk:k (Aq cells pieces names r)=some (st',.ret v)):aV (D5 H (Xs H).1) (uT H k) (Ap cells pieces names comp shelf r)=some (st',.ret v):=by
 have h:=Cc H (qX H) k cells pieces names comp shelf hr
 rw [hk] at h
 have e2:∀ (q:Option SV->Bool) (o:Option (List SV×Fl)) (l:List (List Nat)),(∀ x∈l,q (some (.d (bH x)))=true)->nG q o l=o:=by
  intro q o l hl
  induction l with
  | nil=>rfl
  | cons x l ih=>
   have e:nG q o (x::l)=cond (q (some (.d (bH x)))) (nG q o l) none:=rfl
   rw [e,hl x (.head _),cond_true]
   exact ih λy hy=>hl y (.tail _ hy)
 rw [e2 _ _ _ λx hx=>zI.mpr (hs x hx)] at h
 have h:(((de (λst=>rd st 23) (Ap cells pieces names comp shelf r)).bind gI).bind λrs=>vC H (qX H) (uT H k) rs (Ap cells pieces names comp shelf r))=some (st',.ret v):=h
 obtain ⟨rs,h1,h2⟩:=(ah h:_)
 have h3:=Bu (λst hq=>zI.mp hq st rfl rfl rfl) h2
 have e3:D5 H (Xs H).1 (Ap cells pieces names comp shelf r)=d7 (λst d=>some (cF aD st 27 (.d d))) (aV (Xs H).1 (CQ H).1) rs (Ap cells pieces names comp shelf r):=by
  show ((de (λst=>rd st 23) (Ap cells pieces names comp shelf r)).bind gI).bind _=_
  rw [h1];rfl
 rw [aW,e3]
 exact h3
section
variable {α:Type}
theorem tT (emb) (S:α->List SV) (p) (g) {ftg fif fe}:
  ∀ (zs:List α) (st0:List SV) (acc:List PV),(∀ z∈zs,ftg st0 (emb z)=some (S z))->(∀ w∈zs,∀ z∈zs,ftg (S w) (emb z)=some (S z))->(∀ z∈zs,fif (S z)=some (p z))->(∀ z∈zs,p z=true->de fe (S z)=some (g z))->acc.length + zs.length<=be->
   ∃ st',cH ftg fif (lf fe) (zs.map emb) st0 (.list acc)=some (st',.list (acc++(zs.filter p).map g)):=by
 intro zv
 induction zv with
 | nil=>exact λst0 acc U U U U U=>⟨st0,by simp [pU,fN]⟩
 | cons z zs ih=>
  intro st0 acc h0 h1 h2 h3 hl
  have hl':acc.length + (zs.length+1)<=be:=hl
  have e1:=h0 z (by simp)
  have e2:=h2 z (by simp)
  have nx:∀ z'∈zs,ftg (S z) (emb z')=some (S z'):=λz' hz=>h1 z (by simp) z' (by simp [hz])
  cases hp:p z with
  | true=>
   have e3:=h3 z (by simp) hp
   obtain ⟨st',e⟩:=ih (S z) (acc++[g z]) nx (λw hw z' hz=>h1 w (by simp [hw]) z' (by simp [hz])) (λz' hz=>h2 z' (by simp [hz])) (λz' hz=>h3 z' (by simp [hz])) (by simp;omega)
   refine ⟨st',?_⟩
   have hg:b9 (acc++[g z])=some (.list (acc++[g z])):=dC (by simp;omega)
   rw [List.map_cons,fN,e1,Option.bind_some,e2,Option.bind_some,hp,if_pos rfl,lf,e3,Option.bind_some]
   simp only [hg,Option.map_some,Option.bind_some]
   rw [e,List.filter_cons_of_pos hp]
   simp
  | false=>
   obtain ⟨st',e⟩:=ih (S z) acc nx (λw hw z' hz=>h1 w (by simp [hw]) z' (by simp [hz])) (λz' hz=>h2 z' (by simp [hz])) (λz' hz=>h3 z' (by simp [hz])) (by omega)
   refine ⟨st',?_⟩
   rw [List.map_cons,fN,e1,Option.bind_some,e2,Option.bind_some,hp,if_neg (by simp),e,List.filter_cons_of_neg (by simp [hp])]
theorem eI (zs:List α) (emb) (S:α->List SV) (p) (g) {fc scope fi st ftg fif fe} (hi:fi st=some (zs.map emb)) (hl:zs.length<=be) (h0:∀ z∈zs,ftg (tX fc scope.names st) (emb z)=some (S z)) (h1:∀ w∈zs,∀ z∈zs,ftg (S w) (emb z)=some (S z)) (h2:∀ z∈zs,fif (S z)=some (p z)) (h3:∀ z∈zs,p z=true->de fe (S z)=some (g z)):
  pY fc scope fi (cH ftg fif (lf fe)) st=some (.list ((zs.filter p).map g)):=by
 obtain ⟨st',e⟩:=tT emb S p g zs (tX fc scope.names st) [] h0 h1 h2 h3 (by simpa using hl)
 unfold pY
 rw [hi,Option.bind_some,e];rfl
theorem dt (zs:List α):zs.filter (λU=>true)=zs:=by simp
theorem fO (zs:List α) (emb) (S:α->List SV) (g) {fc scope fi st ftg fe} (hi:fi st=some (zs.map emb)) (hl:zs.length<=be) (h0:∀ z∈zs,ftg (tX fc scope.names st) (emb z)=some (S z)) (h1:∀ w∈zs,∀ z∈zs,ftg (S w) (emb z)=some (S z)) (h3:∀ z∈zs,de fe (S z)=some (g z)):
  pY fc scope fi (cH ftg (λU=>some true) (lf fe)) st=some (.list (zs.map g)):=by
 rw [eI zs emb S (λU=>true) g hi hl h0 h1 (λU U=>rfl) (λz hz U=>h3 z hz),dt]
noncomputable def KZ (comp:PV) (sh:Nat->PV) (x:List Nat) (k:Nat):List SV:=[.u,.d (iP k),.obj cQ comp,.d (bH x),.d (.list [sh 0,sh 1,sh 2,sh 3,sh 4])]
noncomputable def I4 (i:Nat) (f:List SV->Option SV) (st:List SV):Option SV:=(pe (λst=>rd st i) st).bind λx=>(pe f st).bind λk=>(a8 x k).map .d
noncomputable def LA (st:List SV):Option SV:=(pe (λst=>rd st 1) st).bind λa=>(pe (λU=>some (.d (.int 1))) st).bind λb=>(zk a b).map .d
noncomputable def Im (st:List SV):Option SV:=(qF cQ (rd st 2)).bind λd=>((de (I4 4 (I4 3 (λst=>rd st 1))) st).bind λa=>((de (I4 4 (I4 3 LA)) st).bind λb=>some [b]).map (a::·)).bind λds=>(pS d ds).map .d
theorem Fs (comp:PV) (sh:Nat->PV):an.map (λx=>[0,1,2,3].map λk=>de Im (KZ comp sh x k))=an.map λx=>[0,1,2,3].map λk=>dy ((pS comp [sh (x.getD k 0),sh (x.getD (k+1) 0)]).map .d):=by kernel_rfl
noncomputable def sn (st:List SV) (i:Nat):SV:=((cn st i).bind EP).getD .u
theorem Gu (H:Wf W):(Xs H).1=λst=>((cH (λst d=>some (fV st 1 (.d d))) (λU=>some true) (lf Im) [iP 0,iP 1,iP 2,iP 3] [.u,.u,sn st 44,sn st 27,sn st 46] (.list [])).map (·.2)).map λd=>(cF aD st 28 (.own d),.next):=by kernel_rfl
noncomputable def Kd (x:List Nat) (k:Nat):PV:= .int (if Nat.blt (x.getD (k+1) 0) (x.getD k 0) then 1 else -1)
theorem Ce:an.map (λx=>(PV.list (Ft x),vV (bH x)))=an.map λx=>(PV.list ([0,1,2,3].map (Kd x)),some x):=by kernel_rfl
theorem EO:an.all (λx=>[0,1,2,3].all λk=>Nat.blt (x.getD k 0) 5&&Nat.blt (x.getD (k+1) 0) 5&&!(Nat.beq (x.getD k 0) (x.getD (k+1) 0)))=true:=by kernel_rfl
def wr (comp:PV) (sh:Nat->PV):Prop:=∀ a b,a<5->b<5->a≠b->pS comp [sh a,sh b]=some (.int (if Nat.blt b a then 1 else -1))
theorem Io (H:Wf W) {x comp sh st} (hx:x∈an) (hc:wr comp sh) (h1:cn st 44=some (.obj cQ comp)) (h2:cn st 46=some (.d (.list [sh 0,sh 1,sh 2,sh 3,sh 4]))) (h3:cn st 27=some (.d (bH x))):(Xs H).1 st=AM st:=by
 have e0:=aQ Ce hx
 have e1:=aQ (Fs comp sh) hx
 have e2:=List.all_eq_true.mp EO x hx
 obtain ⟨st',e⟩:=tT iP (KZ comp sh x) (λU=>true) (Kd x) (ftg:=λst d=>some (fV st 1 (.d d))) (fif:=λU=>some true) (fe:=Im) [0,1,2,3] [.u,.u,.obj cQ comp,.d (bH x),.d (.list [sh 0,sh 1,sh 2,sh 3,sh 4])] [] (λz U=>rfl) (λw U z U=>rfl) (λU U=>rfl) (λz hz U=>by
  have e4:=List.all_eq_true.mp e2 z hz
  simp only [Bool.and_eq_true,Bool.not_eq_true'] at e4
  obtain ⟨⟨a1,a2⟩,a3⟩:=e4
  rw [aQ e1 hz,hc _ _ (Nat.blt_eq.mp a1) (Nat.blt_eq.mp a2) (Nat.ne_of_beq_eq_false a3)]
  rfl) (by decide)
 rw [dt] at e
 have w1:sn st 44= .obj cQ comp:=by unfold sn;rw [h1];rfl
 have w2:sn st 27= .d (bH x):=by unfold sn;rw [h3];rfl
 have w3:sn st 46= .d (.list [sh 0,sh 1,sh 2,sh 3,sh 4]):=by unfold sn;rw [h2];rfl
 have w4:rd st 27=some (.d (bH x)):=by unfold rd;rw [h3];rfl
 rw [Gu]
 unfold AM
 show ((cH (λst d=>some (fV st 1 (.d d))) (λU=>some true) (lf Im) [iP 0,iP 1,iP 2,iP 3] [.u,.u,sn st 44,sn st 27,sn st 46] (.list [])).map (·.2)).map _=_
 rw [w1,w2,w3,w4]
 have e:cH (λst d=>some (fV st 1 (.d d))) (λU=>some true) (lf Im) [iP 0,iP 1,iP 2,iP 3] [.u,.u,.obj cQ comp,.d (bH x),.d (.list [sh 0,sh 1,sh 2,sh 3,sh 4])] (.list [])=some (st',.list ([0,1,2,3].map (Kd x))):=e
 rw [e]
 have e5:(dy (some (SV.d (bH x)))).bind vV=some x:=(Prod.mk.inj e0).2
 rw [e5]
 show some _=some _
 rw [<-(Prod.mk.inj e0).1]
theorem nQ:an.all (λr=>(cW r).all gG)=true:=by kernel_rfl
theorem DU (H:Wf W) {st cells pieces names comp sh r st' v} (hr:r∈an) (hc:wr comp sh)
  (h0:dH [10] (jT [9,11,12,18,19,2,16] st)=some (Cg cells pieces names comp (.list [sh 0,sh 1,sh 2,sh 3,sh 4]) r))
  (hk:HF H (Aq cells pieces names r)=some (st',.ret v)):(CP H).1 st=some (st',.ret v):=by
 rw [DT]
 show (dH [10] (jT [9,11,12,18,19,2,16] st)).bind _=_
 rw [h0,Option.bind_some,Cb H _ _ _ _ _ _ hr,DV,D0,DW]
 exact Kc H hr (λx hx st h1 h2 h3=>Io H (du (List.all_eq_true.mp (List.all_eq_true.mp nQ r hr) x hx)) hc h1 h2 h3) hk
noncomputable abbrev Lt:=List Nat
noncomputable def dict (ks:List (List Nat)) (f:List Nat->PV):PV:= .dS ks (ks.map f)
noncomputable def xA:Nat->List Lt->List (Nat×Lt)
 | _,[]=>[]
 | i,x::xs=>(i,x)::xA (i+1) xs
noncomputable def JG (z:Nat×Lt):PV:= .tuple [.int z.1,.str z.2]
theorem iY {xs}:uK [.list xs]=some (en 0 xs):=rfl
theorem zF {v k}:∀ {ks:List Lt} {xs:List PV},ks.length=xs.length->k∉ks->gN ks xs k v=(ks++[k],xs++[v]):=by
 intro zv
 induction zv with
 | nil=>
  intro zw
  cases zw with
  | nil=>exact λU U=>rfl
  | cons x xs=>
   intro h _
   simp at h
 | cons k' ks ih=>
  intro zw
  cases zw with
  | nil=>
   intro h _
   simp at h
  | cons x xs=>
   intro h hk
   have h1:¬ k'=k:=λe=>hk (by simp [e])
   have h2:k∉ks:=λe=>hk (by simp [e])
   rw [gB,if_neg h1,ih (by simpa using h) h2];rfl
theorem E2 {ks:List Lt} {xs} {k:Lt} {v} (h:xs.length<be):iZ (.dS ks xs) (.str k) v=some (.dS (gN ks xs k v).1 (gN ks xs k v).2):=if_pos h
theorem Ha {fk fv st} {ks:List Lt} {xs}:FV fk fv st (.dS ks xs)=(de fk st).bind λk=>(de fv st).bind λv=>(iZ (.dS ks xs) k v).map (st,·):=rfl
theorem Bc (emb) (S:α->List SV) (p) (κ:α->Lt) (g) {ftg fif fk fv}:
  ∀ (zs:List α) (st0:List SV) (ks:List Lt) (xs:List PV),(∀ z∈zs,ftg st0 (emb z)=some (S z))->(∀ w∈zs,∀ z∈zs,ftg (S w) (emb z)=some (S z))->(∀ z∈zs,fif (S z)=some (p z))->(∀ z∈zs,p z=true->de fk (S z)=some (.str (κ z)))->(∀ z∈zs,p z=true->de fv (S z)=some (g z))->
   ks.length=xs.length->(ks++(zs.filter p).map κ).Nodup->ks.length + zs.length<be->
   ∃ st',cH ftg fif (FV fk fv) (zs.map emb) st0 (.dS ks xs)=some (st',.dS (ks++(zs.filter p).map κ) (xs++(zs.filter p).map g)):=by
 intro zv
 induction zv with
 | nil=>exact λst0 ks xs U U U U U U U U=>⟨st0,by simp [pU,fN]⟩
 | cons z zs ih=>
  intro st0 ks xs h0 h1 h2 h3 h4 hl hn hb
  have hb':ks.length + (zs.length+1)<be:=hb
  have e1:=h0 z (by simp)
  have e2:=h2 z (by simp)
  have nx:∀ z'∈zs,ftg (S z) (emb z')=some (S z'):=λz' hz=>h1 z (by simp) z' (by simp [hz])
  cases hp:p z with
  | true=>
   have e3:=h3 z (by simp) hp
   have e4:=h4 z (by simp) hp
   rw [List.filter_cons_of_pos hp,List.map_cons] at hn
   have hz:κ z∉ks:=λq=>(List.nodup_append.mp hn).2.2 _ q _ (by simp) rfl
   obtain ⟨st',e⟩:=ih (S z) (ks++[κ z]) (xs++[g z]) nx (λw hw z' hz=>h1 w (by simp [hw]) z' (by simp [hz])) (λz' hz=>h2 z' (by simp [hz])) (λz' hz=>h3 z' (by simp [hz])) (λz' hz=>h4 z' (by simp [hz])) (by simp [hl]) (by simpa using hn) (by simp;omega)
   refine ⟨st',?_⟩
   rw [List.map_cons,fN,e1,Option.bind_some,e2,Option.bind_some,if_pos hp,Ha,e3,Option.bind_some,e4,Option.bind_some,E2 (by omega),zF hl hz,Option.map_some,Option.bind_some]
   simp only
   rw [e,List.filter_cons_of_pos hp]
   simp
  | false=>
   rw [List.filter_cons_of_neg (by simp [hp])] at hn
   obtain ⟨st',e⟩:=ih (S z) ks xs nx (λw hw z' hz=>h1 w (by simp [hw]) z' (by simp [hz])) (λz' hz=>h2 z' (by simp [hz])) (λz' hz=>h3 z' (by simp [hz])) (λz' hz=>h4 z' (by simp [hz])) hl hn (by omega)
   refine ⟨st',?_⟩
   rw [List.map_cons,fN,e1,Option.bind_some,e2,Option.bind_some,if_neg (by simp [hp]),e,List.filter_cons_of_neg (by simp [hp])]
theorem pW (zs:List α) (emb) (S:α->List SV) (p) (κ:α->Lt) (g) {fc scope fi st ftg fif fk fv} (hi:fi st=some (zs.map emb)) (hl:zs.length<be) (hn:((zs.filter p).map κ).Nodup) (h0:∀ z∈zs,ftg (tX fc scope.names st) (emb z)=some (S z)) (h1:∀ w∈zs,∀ z∈zs,ftg (S w) (emb z)=some (S z)) (h2:∀ z∈zs,fif (S z)=some (p z)) (h3:∀ z∈zs,p z=true->de fk (S z)=some (.str (κ z))) (h4:∀ z∈zs,p z=true->de fv (S z)=some (g z)):
  pV fc scope fi (cH ftg fif (FV fk fv)) st=some (.dS ((zs.filter p).map κ) ((zs.filter p).map g)):=by
 obtain ⟨st',e⟩:=Bc emb S p κ g zs (tX fc scope.names st) [] [] h0 h1 h2 h3 h4 rfl (by simpa using hn) (by simpa using hl)
 unfold pV
 rw [hi,Option.bind_some,e];rfl
theorem jS (zs:List α) (emb) (S:α->List SV) (κ:α->Lt) (g) {fc scope fi st ftg fk fv} (hi:fi st=some (zs.map emb)) (hl:zs.length<be) (hn:(zs.map κ).Nodup) (h0:∀ z∈zs,ftg (tX fc scope.names st) (emb z)=some (S z)) (h1:∀ w∈zs,∀ z∈zs,ftg (S w) (emb z)=some (S z)) (h3:∀ z∈zs,de fk (S z)=some (.str (κ z))) (h4:∀ z∈zs,de fv (S z)=some (g z)):
  pV fc scope fi (cH ftg (λU=>some true) (FV fk fv)) st=some (.dS (zs.map κ) (zs.map g)):=by
 rw [pW zs emb S (λU=>true) κ g hi hl (by rw [dt];exact hn) h0 h1 (λU U=>rfl) (λz hz U=>h3 z hz) (λz hz U=>h4 z hz),dt]
end
noncomputable abbrev ab:List Lt:=[[97],[98],[99],[100],[101]]
theorem jy {a b} (h:0<b/\b<1073741824):vP (.int a) (.int b)=some (.int (a % b)):=if_pos h
theorem mi {a b} (h:0<b/\b<1073741824):zl (.int a) (.int b)=some (.int (a / b)):=if_pos h
theorem E0 {xs} {k:Nat} {v} (h:k<xs.length):iZ (.list xs) (.int k) v=some (.list (xs.set k v)):=by
 show (if _ then _ else _)=_
 rw [if_pos ⟨by w_fin,by w_fin⟩];rfl
noncomputable def AY (cs:List Int) (k:Nat):Int:=cs.getD k 0
theorem tQ {cs} {k:Nat} (h:k<cs.length):a8 (.list (cs.map .int)) (.int k)=some (.int (AY cs k)):=ef (by rw [gY,List.getElem?_eq_getElem h];simp [AY,h])
theorem xz:∀ z∈xA 0 ab,z.1<5:=by decide
noncomputable abbrev Lq:List Lt:=[[],[92,40],[92,41],[34,41,34],[34,40,92,34,40,34],[92,92]]
noncomputable def qD (i:Int):Lt:=Lq.getD (i % 6).toNat []
theorem yY (i):a8 (.list [.str [],.str [92,40],.str [92,41],.str [34,41,34],.str [34,40,92,34,40,34],.str [92,92]]) (.int (i % 6))=some (.str (qD i)):=by
 have h1:0<=i % 6:=by w_fin
 have h2:i % 6<6:=by w_fin
 unfold qD
 generalize i % 6=j at h1 h2
 have:j=0∨j=1∨j=2∨j=3∨j=4∨j=5:=by w_fin
 rcases this with rfl | rfl | rfl | rfl | rfl | rfl <;> rfl
noncomputable def FR:List SV:=List.replicate 64 .u
def y8 (x:Option (List SV×Fl)):Prop:=∃ st',x=some (st',.ret (.d (.bool true)))
noncomputable def gK (cells marks pieces down back left things row v one names bye words comp flat shelf:SV):List SV:=
 [.u,cells,.u,.u,marks,pieces,down,back,left,things,row,v,one,names,bye,.u,words,.u,.u,.u,.u,.u,.u,.u,.u,.u,.u,.u,.u,.u,
  .u,.u,.u,.u,.u,.u,.u,.u,.u,.u,.u,.u,.u,.u,comp,flat,shelf,.u,.u,.u,.u,.u,.u,.u,.u,.u,.u,.u,.u,.u,.u,.u,.u,.u,.u,.u,.u,.u]
noncomputable def Ij (H:Wf W):bO:=aV (Jo H).1 (aV (DY H).1 (CP H).1)
noncomputable def Ii (H:Wf W):bO:=aV (X9 H).1 λst=>Ij H (jT [4,6,7,8,12,14,15,45] st)
noncomputable def Fo (H:Wf W):bO:=aV (X7 H).1 (aV (X8 H).1 λst=>(dH [46] st).bind (Ii H))
noncomputable def zS (H:Wf W):bO:=aV (X2 H).1 (aV (X3 H).1 λst=>(dH [5] st).bind (aV (X4 H).1 (aV (X5 H).1 (aV (X6 H).1 (Fo H)))))
theorem DI (H:Wf W):(CM H).1=aV (X0 H).1 (aV (X1 H).1 λst=>(dH [1] (jT [0,2,3] st)).bind (zS H)):=by kernel_rfl
theorem GJ (H) {dx} {cs:List Int} {k z} (hk:k % 7<cs.length):(B1 H).1 (.d dx:: .own (.list (cs.map .int)):: .d (.int k):: .d (.int z)::FR)=some (.d dx:: .own (.list ((cs.set (k % 7) (AY cs (k % 7) + z % 1000003)).map .int)):: .d (.int k):: .d (.int z)::FR,.next):=by
 have hit:a8 (.list (cs.map PV.int)) (.int ((k:Int) % 7))=some (.int (AY cs (k % 7))):=tQ hk
 have hpt:iZ (.list (cs.map PV.int)) (.int ((k:Int) % 7)) (.int (AY cs (k % 7) + z % 1000003))=some (.list ((cs.set (k % 7) (AY cs (k % 7) + z % 1000003)).map .int)):=by
  rw [List.map_set]
  exact E0 (by rw [fJ];exact hk)
 wp_walk using B1,jy,hit,hpt
theorem CG (H) {dx t} (ht:∀ (cs:List Int) (v2 v3:SV),cs.length=7->y8 (t (.d dx:: .own (.list (cs.map .int))::v2::v3::FR))) (zs:List Int):
  ∀ (k:Nat) (cs:List Int) (v2 v3:SV),cs.length=7->y8 (uE (d7 (kA aD 2 3) (B1 H).1 (en k (zs.map .int)) (.d dx:: .own (.list (cs.map .int))::v2::v3::FR)) t):=by
 induction zs with
 | nil=>exact λk cs v2 v3 h1=>ht cs v2 v3 h1
 | cons z zs ih=>
  intro k cs v2 v3 h1
  have hk:k % 7<cs.length:=by rw [h1];w_fin
  rw [List.map_cons,kX,cR rfl (GJ H hk)]
  exact ih (k+1) _ _ _ (by rw [List.length_set];exact h1)
theorem Bm (d:PV):aY aD [0] [.d d] (bc aD)=some (.d d:: .u:: .u:: .u::FR):=by kernel_rfl
theorem HK (H) (xs:List Int) (k:∀ (cs:List Int),cs.length=7->y8 (zS H (gK (.d (.list (cs.map .int))) .u .u .u .u .u .u .u .u .u .u .u .u .u .u .u))):fC (bC aD [0] (CM H).1) [.list (xs.map .int)]=some (.bool true):=by
 have hg7:b9 [PV.int 10,PV.int 3,PV.int 1,PV.int 17,PV.int 6,PV.int 17,PV.int 17]=some (.list (([10,3,1,17,6,17,17]:List Int).map .int)):=rfl
 have hsl:dh (.list (xs.map PV.int)) none (some 60) none=some (.list ((xs.take 60).map .int)):=by
  erw [eg,show (60:Int)=((60:Nat):Int) from rfl,zX,<-List.map_take]
  exact dC (by erw [fJ,List.length_take];unfold be;w_fin)
 have:=CG H (dx:= .list (xs.map .int)) (t:=λst=>(dH [1] (jT [0,2,3] st)).bind (zS H)) (λcs v2 v3 h7=>k cs h7) (xs.take 60) 0 [10,3,1,17,6,17,17] .u .u rfl
 have h0:y8 ((CM H).1 (.d (.list (xs.map .int)):: .u:: .u:: .u::FR)):=by
  rw [DI]
  wp_walk using X0,X1,hg7,hsl,iY
  exact this
 obtain ⟨st',e⟩:=h0
 unfold fC bC
 erw [Bm,Option.bind_some,e];rfl
noncomputable def eQ:PV:= .list [.str [],.str [92,40],.str [92,41],.str [34,41,34],.str [34,40,92,34,40,34],.str [92,92]]
noncomputable def bP (c0 c1 c2 c3 c4 c5 c6:Int):PV:= .list [.int c0,.int c1,.int c2,.int c3,.int c4,.int c5,.int c6]
noncomputable def bW (p:Nat->Lt):PV:= .dS ab [.str (p 0),.str (p 1),.str (p 2),.str (p 3),.str (p 4)]
noncomputable def eC (l:Nat->Int) (k:Nat):PV:= .tuple [.int (l k),.str [97 + k]]
noncomputable def lF (d b:Int):PV:= .tuple [.tuple [.int 0,.int d],.tuple [.int 1,.int b]]
noncomputable def gS (d:Int):PV:= .tuple [.tuple [.int 0,.int d]]
theorem Gj (H:Wf W) (k:bO) (cells:PV):aV (X2 H).1 k (gK (.d cells) .u .u .u .u .u .u .u .u .u .u .u .u .u .u .u)=k (gK (.d cells) (.d eQ) .u .u .u .u .u .u .u .u .u .u .u .u .u .u):=by kernel_rfl
theorem Gk (H:Wf W) {c0 c1 c2 c3 c4 c5 c6}:(X3 H).1 (gK (.d (bP c0 c1 c2 c3 c4 c5 c6)) (.d eQ) .u .u .u .u .u .u .u .u .u .u .u .u .u .u)=some (gK (.d (bP c0 c1 c2 c3 c4 c5 c6)) (.d eQ) (.own (bW λk=>qD (AY [c0,c1,c2,c3,c4,c5,c6] k / 3))) .u .u .u .u .u .u .u .u .u .u .u .u .u,.next):=by
 have e {k:Nat} (h:k<5):a8 (bP c0 c1 c2 c3 c4 c5 c6) (.int k)=some (.int (AY [c0,c1,c2,c3,c4,c5,c6] k)):=tQ (cs:=[c0,c1,c2,c3,c4,c5,c6]) (Nat.lt_of_lt_of_le h (by decide:5<=7))
 wp_walk using gK,X3
 rw [jS (xA 0 ab) JG (λz=>[.u,.d (.int z.1),.d (.str z.2),.d (bP c0 c1 c2 c3 c4 c5 c6),.d eQ]) (·.2) (λz=> .str (qD (AY [c0,c1,c2,c3,c4,c5,c6] z.1 / 3)))]
 rotate_left
 ·wp_walk;rfl
 ·decide
 ·decide
 ·intro z hz;rfl
 ·intro w hw z hz;rfl
 ·intro z hz;rfl
 ·intro z hz
  have:=xz z hz
  wp_walk using eQ,jy,mi,e this,yY
 wp_walk
 rfl
theorem AL (H:Wf W) (k:bO) (pieces:PV) (c0 c1 c2 c3 c4 c5 c6):(aV (X4 H).1 (aV (X5 H).1 (aV (X6 H).1 k))) (gK (.d (bP c0 c1 c2 c3 c4 c5 c6)) (.d eQ) (.d pieces) .u .u .u .u .u .u .u .u .u .u .u .u .u)=
  k (gK (.d (bP c0 c1 c2 c3 c4 c5 c6)) (.d eQ) (.d pieces) (.d (.int (1 - c6 % 2 * 2))) (.d (.int (1 - c6 / 2 % 2 * 2))) (.d (.bool (decide (c6 / 4 % 2=0))))
   (.own (.list [.tuple [.int (c0 % 3),.str [97]],.tuple [.int (c1 % 3),.str [98]],.tuple [.int (c2 % 3),.str [99]],.tuple [.int (c3 % 3),.str [100]],.tuple [.int (c4 % 3),.str [101]]])) (.own (.list [])) (.d (.int c5)) .u .u .u .u (.obj cQ (lF (1 - c6 % 2 * 2) (1 - c6 / 2 % 2 * 2))) (.obj cQ (gS (1 - c6 % 2 * 2))) (.own (.list []))):=by kernel_rfl
noncomputable def a7 (k:Nat):PV:= .str [97 + k]
noncomputable def j6 (l:Nat->Int) (d b:Int) (k:Nat):PV:= .tuple [.int (l k * d),.int (k * b),a7 k]
noncomputable def sG (cells pieces:PV) (l:Nat->Int) (d b:Int) (left:Bool) (v:Int) (names one bye shelf:SV):List SV:=
 gK (.d cells) (.d eQ) (.d pieces) (.d (.int d)) (.d (.int b)) (.d (.bool left)) (.own (.list [eC l 0,eC l 1,eC l 2,eC l 3,eC l 4])) (.own (.list [])) (.d (.int v)) one names bye .u (.obj cQ (lF d b)) (.obj cQ (gS d)) shelf
theorem nO {a b:Int} (h:b=1∨b= -1):uL (.int a) (.int b)=some (.int (a * b)):=by
 rcases h with rfl | rfl <;> rfl
theorem xH:an.all (λr=>De (.list (r.map a7)))=true:=by kernel_rfl
theorem BJ:an.all (λr=>Nat.beq r.length 5)=true:=by kernel_rfl
theorem fE {r} (h:r∈an):r.length=5:=Nat.eq_of_beq_eq_true (List.all_eq_true.mp BJ r h)
theorem Gl (H:Wf W) {cells pieces:PV} {l d b left v np} (hd:d=1∨d= -1) (hb:b=1∨b= -1) (hr:np∈an) (hs:o8 [.list ([0,1,2,3,4].map (j6 l d b))]=some (.list (np.map (j6 l d b)))):
  (X7 H).1 (sG cells pieces l d b left v .u .u .u (.own (.list [])))=some (sG cells pieces l d b left v (.d (.list (np.map a7))) .u .u (.own (.list [])),.next):=by
 wp_walk using sG,gK,X7
 rw [fO np (j6 l d b) (λz=>[.u,.d (j6 l d b z)]) a7]
 rotate_left
 ·wp_walk
  rw [fO [0,1,2,3,4] (λk=> .tuple [.int (k:Nat),eC l k]) (λz=>[.u,.d (.int (z:Nat)),.d (eC l z),.d (.int b),.d (.int d)]) (j6 l d b)]
  rotate_left
  ·wp_walk using iY
  ·decide
  ·intro z hz;rfl
  ·intro w hw z hz;rfl
  ·intro z hz
   wp_walk using eC,nO hd,nO hb
   rfl
  have hs':o8 [PV.list [j6 l d b 0,j6 l d b 1,j6 l d b 2,j6 l d b 3,j6 l d b 4]]=some (.list (np.map (j6 l d b))):=hs
  wp_walk using hs'
 ·rw [fE hr];decide
 ·intro z hz;rfl
 ·intro w hw z hz;rfl
 ·intro z hz;rfl
 have hf:=List.all_eq_true.mp xH np hr
 wp_walk using hf
theorem oZ {fc sc fb st st' d} (h:aY (Dl sc) [0] [.d d] (HO fc sc.names st)=some st'):qz fc sc [0] fb st [d]=de fb st':=by
 unfold qz
 erw [show [d].map SV.d=[.d d] from rfl,h];rfl
theorem lJ {o:Option PV}:dy (o.map .d)=o:=by cases o <;> rfl
theorem yn {i jk fe ba s st}:yj i jk fe ba (s::st)=(mQ (s::st)[i]?).bind λxs=>(de fe (s::st)).bind λdx=>(Df (rd (s::st) jk)).bind λf=>(ba f xs dx).map λk=>(s::st).set i (.own (.list (gX xs k dx))):=by
 unfold yj;simp only [bV,b7]
theorem jY {xs}:mQ (some (.own (.list xs)))=some xs:=rfl
noncomputable def cK (c one:PV) (ds:List PV):Option PV:=pS c (ds++[one])
theorem l0 {f g:List PV->Option PV} (h:∀ y,f [y]=g [y]):oX (.fn f)=oX (.fn g):=funext λy=>by
 show (f [y]).bind _=(g [y]).bind _
 rw [h]
theorem pg {f g:List PV->Option PV} (h:∀ y,f [y]=g [y]) {sw xs x}:ba eT sw (.fn f) xs x=ba eT sw (.fn g) xs x:=by
 unfold ba eT
 rw [l0 h];rfl
theorem ph {f g:List PV->Option PV} (h:∀ y,f [y]=g [y]) {sw xs x}:ba eU sw (.fn f) xs x=ba eU sw (.fn g) xs x:=by
 unfold ba eU
 rw [l0 h];rfl
noncomputable def JZ (left:Bool) (c one:PV) (xs:List PV):Option Nat:=bif left then ba eT false (.fn (cK c one)) xs one else ba eU true (.fn (cK c one)) xs one
theorem Ci {fc i f} (h:dK fc i=true):v6 fc i (.fn f)=true:=h
theorem F4 (H:Wf W) {cells pieces:PV} {l d b left v names one bye xs k} (hp:JZ left (gS d) one xs=some k):
  ∃ f,(B8 H).1 (sG cells pieces l d b left v (.d names) (.d one) bye (.own (.list xs)))=some (sG cells pieces l d b left v (.d names) (.d one) (.fn f) (.own (.list (gX xs k one))),.next):=by
 wp_walk using sG,gK,B8,Ci
 generalize hF:qz _ _ _ _ _=F
 have hFe:∀ y:PV,F [y]=cK (gS d) one [y]:=by
  intro y
  rw [<-hF,oZ (st':=[.d y,.obj cQ (gS d),.d one]) rfl]
  wp_walk using lJ
  rfl
 refine ⟨F,?_⟩
 cases left with
 | true=>
  have hp:ba eT false (.fn F) xs one=some k:=(pg hFe).trans hp
  wp_walk using yn,jY,hp
 | false=>
  have hp:ba eU true (.fn F) xs one=some k:=(ph hFe).trans hp
  wp_walk using yn,jY,hp
noncomputable def zh (left:Bool) (b:Int):List Nat:=if left==decide (0<b) then [4,3,2,1,0] else [0,1,2,3,4]
noncomputable def km (left:Bool) (c:PV):List PV->List PV->Option (List PV)
 | [],xs=>some xs
 | one::os,xs=>(JZ left c one xs).bind λk=>km left c os (gX xs k one)
theorem Bt {left c one os xs}:km left c (one::os) xs=(JZ left c one xs).bind λk=>km left c os (gX xs k one):=rfl
theorem BR {cells pieces:PV} {l d b left v names one bye xs x}:cF aD (sG cells pieces l d b left v (.d names) one bye (.own (.list xs))) 12 (.d x)=sG cells pieces l d b left v (.d names) (.d x) (ci bye) (.own (.list xs)):=by kernel_rfl
theorem CH (H:Wf W) {cells pieces:PV} {l d b left v names} (os:List PV):∀ {one bye xs ys},km left (gS d) os xs=some ys->∃ one' bye',d7 (λst d=>some (cF aD st 12 (.d d))) (B8 H).1 os (sG cells pieces l d b left v (.d names) one bye (.own (.list xs)))=some (sG cells pieces l d b left v (.d names) one' bye' (.own (.list ys)),.next):=by
 induction os with
 | nil=>
  intro one bye xs ys h
  obtain rfl:=sI h
  exact ⟨one,bye,rfl⟩
 | cons x os ih=>
  intro one bye xs ys h
  rw [Bt] at h
  obtain ⟨k,h1,h2⟩:=(ah h:_)
  obtain ⟨f,e⟩:=F4 H (cells:=cells) (pieces:=pieces) (l:=l) (b:=b) (v:=v) (names:=names) (bye:=ci bye) h1
  obtain ⟨one',bye',e2⟩:=ih (one:= .d x) (bye:= .fn f) h2
  exact ⟨one',bye',(cR (congrArg some BR) e).trans e2⟩
noncomputable def JH:List (Bool×Int):=[(true,1),(true,-1),(false,1),(false,-1)]
theorem Eb (H:Wf W) (cells pieces:PV) (l:Nat->Int) (d v:Int) (names:PV):JH.map (λq=>(X8 H).1 (sG cells pieces l d q.2 q.1 v (.d names) .u .u (.own (.list []))))=
  JH.map λq=>d7 (λst d=>some (cF aD st 12 (.d d))) (B8 H).1 ((zh q.1 q.2).map (eC l)) (sG cells pieces l d q.2 q.1 v (.d names) .u .u (.own (.list []))):=by kernel_rfl
theorem BH {left b} (hb:b=1∨b= -1):(left,b)∈JH:=by
 rcases hb with rfl | rfl <;> cases left <;> decide
theorem Gm (H:Wf W) {cells pieces:PV} {l d b left v names ys} (hb:b=1∨b= -1) (h:km left (gS d) ((zh left b).map (eC l)) []=some ys):∃ one bye,(X8 H).1 (sG cells pieces l d b left v (.d names) .u .u (.own (.list [])))=some (sG cells pieces l d b left v (.d names) one bye (.own (.list ys)),.next):=by
 obtain ⟨one,bye,e⟩:=CH H (cells:=cells) (pieces:=pieces) (l:=l) (d:=d) (b:=b) (left:=left) (v:=v) (names:=names) _ (one:= .u) (bye:= .u) h
 exact ⟨one,bye,(aQ (Eb H cells pieces l d v names) (BH hb)).trans e⟩
noncomputable def Bi (m k:Nat):Nat:=m / 3 ^ k % 3
noncomputable def dz (m k:Nat):Int:=(Bi m k:Nat)
noncomputable def dU (d:Bool):Int:=if d then 1 else -1
noncomputable def ED (d b:Bool) (x k:Nat):Nat:=(bif d then x else 2 - x) * 5 + (bif b then k else 4 - k)
noncomputable def yH (m:Nat) (d b:Bool) (k:Nat):Nat:=ED d b (Bi m k) k
noncomputable def Ho (key:Nat->Nat) (x:Nat):List Nat->List Nat
 | []=>[x]
 | y::l=>if Nat.blt (key x) (key y) then x::y::l else y::Ho key x l
noncomputable def kK (m:Nat) (d b:Bool):List Nat:=[0,1,2,3,4].foldl (λl x=>Ho (yH m d b) x l) []
noncomputable def iG (a b:Nat):Int:=if Nat.blt b a then 1 else if Nat.blt a b then -1 else 0
noncomputable def IU:List (Nat×Nat):=[0,1,2,3,4].flatMap λi=>[0,1,2,3,4].map λj=>(i,j)
noncomputable def Bg:List (Bool×Bool):=[(true,true),(true,false),(false,true),(false,false)]
noncomputable def I6 (m:Nat) (d b:Bool):Option PV×Option (List PV)×Option (List PV):=
 (o8 [.list ([0,1,2,3,4].map (j6 (dz m) (dU d) (dU b)))],km true (gS (dU d)) ((zh true (dU b)).map (eC (dz m))) [],km false (gS (dU d)) ((zh false (dU b)).map (eC (dz m))) [])
noncomputable def I7 (m:Nat) (d b:Bool):Option PV×Option (List PV)×Option (List PV):=
 (some (.list ((kK m d b).map (j6 (dz m) (dU d) (dU b)))),some ((kK m d b).map (eC (dz m))),some ((kK m d b).map (eC (dz m))))
def T8 (ms:List Nat):Prop:=ms.map (λm=>Bg.map λq=>I6 m q.1 q.2)=ms.map λm=>Bg.map λq=>I7 m q.1 q.2
theorem jH {ms m d b} (h:T8 ms) (hm:m∈ms) (hq:(d,b)∈Bg):I6 m d b=I7 m d b:=by
 unfold T8 at h
 have e:=aQ h hm
 have e2:=aQ e hq
 exact e2
theorem Kj:T8 ((List.range' 0 243).drop 0 |>.take 27):=by unfold T8;kernel_rfl
theorem Kk:T8 ((List.range' 0 243).drop 27 |>.take 27):=by unfold T8;kernel_rfl
theorem Kl:T8 ((List.range' 0 243).drop 54 |>.take 27):=by unfold T8;kernel_rfl
theorem Km:T8 ((List.range' 0 243).drop 81 |>.take 27):=by unfold T8;kernel_rfl
theorem Ko:T8 ((List.range' 0 243).drop 108 |>.take 27):=by unfold T8;kernel_rfl
theorem Kq:T8 ((List.range' 0 243).drop 135 |>.take 27):=by unfold T8;kernel_rfl
theorem Kr:T8 ((List.range' 0 243).drop 162 |>.take 27):=by unfold T8;kernel_rfl
theorem Ks:T8 ((List.range' 0 243).drop 189 |>.take 27):=by unfold T8;kernel_rfl
theorem Kt:T8 ((List.range' 0 243).drop 216 |>.take 27):=by unfold T8;kernel_rfl
noncomputable def I0:List Nat->Bool
 | []=>true
 | x::l=>l.all (Nat.blt x)&&I0 l
theorem E5 {l:List Nat}:I0 l=true->l.Pairwise (· <·):=by
 induction l with
 | nil=>exact λU=> .nil
 | cons x l ih=>
  intro h
  have h:(l.all (Nat.blt x)&&I0 l)=true:=h
  rw [Bool.and_eq_true,List.all_eq_true] at h
  exact .cons (λy hy=>Nat.blt_eq.mp (h.1 y hy)) (ih h.2)
theorem BE:(List.range 243).all (λm=>Bg.all λq=>I0 ((kK m q.1 q.2).map (yH m q.1 q.2)))=true:=by kernel_rfl
noncomputable def K0 (x k:Nat):PV:= .tuple [.int (x:Nat),.str [97 + k]]
theorem Bb:Bg.map (λq=>[0,1,2].map λx=>[0,1,2].map λy=>IU.map λp=>pS (lF (dU q.1) (dU q.2)) [K0 x p.1,K0 y p.2])=Bg.map λq=>[0,1,2].map λx=>[0,1,2].map λy=>IU.map λp=>some (.int (iG (ED q.1 q.2 x p.1) (ED q.1 q.2 y p.2))):=by kernel_rfl
theorem HR {i j:Nat} (hi:i<5) (hj:j<5):(i,j)∈IU:=by
 have h:([0,1,2,3,4].all λi=>[0,1,2,3,4].all λj=>decide ((i,j)∈IU))=true:=by decide +kernel
 have m {q:Nat} (h:q<5):q∈[0,1,2,3,4]:=by
  rw [show [0,1,2,3,4]=List.range 5 from rfl];exact List.mem_range.mpr h
 exact of_decide_eq_true (List.all_eq_true.mp (List.all_eq_true.mp h i (m hi)) j (m hj))
theorem o6:(List.range 243).all (λm=>Bg.all λq=>gG (kK m q.1 q.2))=true:=by kernel_rfl
theorem zJ {m} (h:m<243):m∈(List.range' 0 243).drop 0:=List.mem_range'.mpr ⟨m,h,by w_fin⟩
theorem Iu {m d b} (hm:m<243):I6 m d b=I7 m d b:=by
 have hr:=zJ hm
 have hq:(d,b)∈Bg:=by cases d <;> cases b <;> decide
 rcases bB 0 27 hr with h | hr
 ·exact jH Kj h hq
 rcases bB 27 27 hr with h | hr
 ·exact jH Kk h hq
 rcases bB 54 27 hr with h | hr
 ·exact jH Kl h hq
 rcases bB 81 27 hr with h | hr
 ·exact jH Km h hq
 rcases bB 108 27 hr with h | hr
 ·exact jH Ko h hq
 rcases bB 135 27 hr with h | hr
 ·exact jH Kq h hq
 rcases bB 162 27 hr with h | hr
 ·exact jH Kr h hq
 rcases bB 189 27 hr with h | hr
 ·exact jH Ks h hq
 rcases bB 216 27 hr with h | hr
 ·exact jH Kt h hq
 rw [show (List.range' 0 243).drop 243=[] by decide +kernel] at hr
 w_cond hr
noncomputable def FX (cells pieces:PV) (l:Nat->Int) (d b:Int) (left:Bool) (v:Int) (np:List Nat) (one bye words:SV):List SV:=
 gK (.d cells) (.d eQ) (.d pieces) (.d (.int d)) (.d (.int b)) (.d (.bool left)) (.own (.list [eC l 0,eC l 1,eC l 2,eC l 3,eC l 4])) (.own (.list [])) (.d (.int v)) one (.d (.list (np.map a7))) bye words (.obj cQ (lF d b)) (.obj cQ (gS d)) (.d (.list (np.map (eC l))))
theorem Gn (H:Wf W) {pieces:PV} {l d b left v np one bye} {c0 c1 c2 c3 c4 c5 c6:Int}:(X9 H).1 (FX (bP c0 c1 c2 c3 c4 c5 c6) pieces l d b left v np one bye .u)=
  if (decide (-1 - c6 % 3<0)&&true)=true then some (FX (bP c0 c1 c2 c3 c4 c5 c6) pieces l d b left v np one bye (.d (.str vK)),.next) else none:=by kernel_rfl
theorem Go (H:Wf W) {pieces:PV} {l d b left v np one bye} {c0 c1 c2 c3 c4 c5 c6:Int}:(X9 H).1 (FX (bP c0 c1 c2 c3 c4 c5 c6) pieces l d b left v np one bye .u)=some (FX (bP c0 c1 c2 c3 c4 c5 c6) pieces l d b left v np one bye (.d (.str vK)),.next):=by
 rw [Gn,if_pos]
 rw [Bool.and_true,decide_eq_true_eq]
 w_fin
noncomputable def sU (cells pieces:PV) (l:Nat->Int) (d b:Int) (v:Int) (np:List Nat):List SV:=
 gK (.d cells) .u (.d pieces) .u .u .u (.own (.list [eC l 0,eC l 1,eC l 2,eC l 3,eC l 4])) (.own (.list [])) (.d (.int v)) .u (.d (.list (np.map a7))) .u (.d (.str vK)) (.obj cQ (lF d b)) .u (.d (.list (np.map (eC l))))
theorem Ik {cells pieces:PV} {l d b left v np one bye}:jT [4,6,7,8,12,14,15,45] (FX cells pieces l d b left v np one bye (.d (.str vK)))=sU cells pieces l d b v np:=by kernel_rfl
theorem AK (H:Wf W) (k:bO) (cells pieces:PV) (l d b v):an.map (λnp=>aV (Jo H).1 k (sU cells pieces l d b v np))=an.map λnp=>k (sU cells pieces l d b v np):=by kernel_rfl
theorem Bv {cells pieces:PV}:dH [5] (gK (.d cells) (.d eQ) (.own pieces) .u .u .u .u .u .u .u .u .u .u .u .u .u)=some (gK (.d cells) (.d eQ) (.d pieces) .u .u .u .u .u .u .u .u .u .u .u .u .u):=by kernel_rfl
theorem xL {cells pieces:PV} {l d b left v np one bye}:dH [46] (sG cells pieces l d b left v (.d (.list (np.map a7))) one bye (.own (.list (np.map (eC l)))))=some (FX cells pieces l d b left v np one bye .u):=by kernel_rfl
theorem yZ (c:Int):∃ d:Nat,d<3/\c % 3=(d:Int):=⟨(c % 3).toNat,by omega,by omega⟩
noncomputable def Bh (l:List Nat):Nat:=l.getD 0 0+3 * l.getD 1 0+9 * l.getD 2 0+27 * l.getD 3 0+81 * l.getD 4 0
theorem Bj:(rL 3 5).map (λl=>(Nat.blt (Bh l) 243,[0,1,2,3,4].map (Bi (Bh l))))=(rL 3 5).map λl=>(true,l):=by kernel_rfl
theorem Er {c0 c1 c2 c3 c4:Int}:∃ m,m<243/\c0 % 3=dz m 0/\c1 % 3=dz m 1/\c2 % 3=dz m 2/\c3 % 3=dz m 3/\c4 % 3=dz m 4:=by
 obtain ⟨a,ha,ea⟩:=yZ c0
 obtain ⟨b,hb,eb⟩:=yZ c1
 obtain ⟨c,hc,ec⟩:=yZ c2
 obtain ⟨d,hd,ed⟩:=yZ c3
 obtain ⟨e,he,ee⟩:=yZ c4
 have h:=aQ Bj (pH [a,b,c,d,e] λx hx=>by
  simp only [List.mem_cons,List.not_mem_nil,or_false] at hx
  rcases hx with rfl | rfl | rfl | rfl | rfl <;> assumption)
 have h1:=congrArg (·.1) h
 have h2:=(Prod.mk.inj h).2
 have at_ (k:Nat) {x} (q:[a,b,c,d,e][k]? =some x) (p:[0,1,2,3,4][k]? =some k):(x:Int)=dz (Bh [a,b,c,d,e]) k:=by
  have:=congrArg (λl=>l[k]?) h2
  simp only [gY,p,q,Option.map_some,Option.some.injEq] at this
  exact congrArg Nat.cast this.symm
 exact ⟨Bh [a,b,c,d,e],Nat.blt_eq.mp h1,ea.trans (at_ 0 rfl rfl),eb.trans (at_ 1 rfl rfl),ec.trans (at_ 2 rfl rfl),ed.trans (at_ 3 rfl rfl),ee.trans (at_ 4 rfl rfl)⟩
theorem Aj {c:Int}:∃ d,1 - c % 2 * 2=dU d:=by
 rcases (by w_fin:c % 2=0∨c % 2=1) with h | h
 ·exact ⟨true,by rw [h];rfl⟩
 ·exact ⟨false,by rw [h];rfl⟩
theorem pw (d):dU d=1∨dU d= -1:=by w_cond d;exact .inr rfl;exact .inl rfl
theorem HM (H) {cells:PV} {pieces:PV} {c0 c1 c2 c3 c4 c5 c6:Int} (hc:cells=bP c0 c1 c2 c3 c4 c5 c6) {m d b left v} (hm:m<243) (k:y8 (aV (DY H).1 (CP H).1 (sU cells pieces (dz m) (dU d) (dU b) v (kK m d b)))):
  y8 (Fo H (sG cells pieces (dz m) (dU d) (dU b) left v .u .u .u (.own (.list [])))):=by
 subst hc
 have hr:kK m d b∈an:=du (List.all_eq_true.mp (List.all_eq_true.mp o6 m (List.mem_range.mpr hm)) (d,b) (by cases d <;> cases b <;> decide))
 have ht:I6 m d b=I7 m d b:=Iu hm
 have h1:=congrArg (·.1) ht
 have h2:km left (gS (dU d)) ((zh left (dU b)).map (eC (dz m))) []=some ((kK m d b).map (eC (dz m))):=by
  cases left with
  | true=>exact congrArg (·.2.1) ht
  | false=>exact congrArg (·.2.2) ht
 have e7:=Gl H (cells:=bP c0 c1 c2 c3 c4 c5 c6) (pieces:=pieces) (left:=left) (v:=v) (pw d) (pw b) hr h1
 obtain ⟨one,bye,e8⟩:=Gm H (cells:=bP c0 c1 c2 c3 c4 c5 c6) (pieces:=pieces) (v:=v) (names:= .list ((kK m d b).map a7)) (pw b) h2
 unfold Fo
 rw [aW,e7,bk,aW,e8,bk,xL,Option.bind_some]
 unfold Ii
 rw [aW,Go,bk,Ik]
 unfold Ij
 rw [aQ (AK H (aV (DY H).1 (CP H).1) (bP c0 c1 c2 c3 c4 c5 c6) pieces (dz m) (dU d) (dU b) v) hr]
 exact k
theorem FJ {α:Type} {l:List α} {n} (h:l.length=n+1):∃ a t,l=a::t/\t.length=n:=by
 cases l with
 | nil=>w_cond h
 | cons a t=>exact ⟨a,t,rfl,Nat.succ.inj h⟩
theorem HL (H) {cs:List Int} (h7:cs.length=7) (k:∀ (c0 c1 c2 c3 c4 c5 c6:Int) (p:Nat->Int) (m:Nat) (d b:Bool),m<243->y8 (aV (DY H).1 (CP H).1 (sU (bP c0 c1 c2 c3 c4 c5 c6) (bW λk=>qD (p k)) (dz m) (dU d) (dU b) c5 (kK m d b)))):
  y8 (zS H (gK (.d (.list (cs.map .int))) .u .u .u .u .u .u .u .u .u .u .u .u .u .u .u)):=by
 obtain ⟨c0,cs,rfl,h7⟩:=FJ h7
 obtain ⟨c1,cs,rfl,h7⟩:=FJ h7
 obtain ⟨c2,cs,rfl,h7⟩:=FJ h7
 obtain ⟨c3,cs,rfl,h7⟩:=FJ h7
 obtain ⟨c4,cs,rfl,h7⟩:=FJ h7
 obtain ⟨c5,cs,rfl,h7⟩:=FJ h7
 obtain ⟨c6,cs,rfl,h7⟩:=FJ h7
 obtain rfl:=List.eq_nil_of_length_eq_zero h7
 ·obtain ⟨m,hm,q0,q1,q2,q3,q4⟩:=@Er c0 c1 c2 c3 c4
  obtain ⟨d,hd⟩:=@Aj c6
  obtain ⟨b,hb⟩:=@Aj (c6 / 2)
  have e:gK (.d (.list (([c0,c1,c2,c3,c4,c5,c6]:List Int).map .int))) .u .u .u .u .u .u .u .u .u .u .u .u .u .u .u=gK (.d (bP c0 c1 c2 c3 c4 c5 c6)) .u .u .u .u .u .u .u .u .u .u .u .u .u .u .u:=rfl
  rw [e]
  unfold zS
  rw [Gj,aW,Gk,bk,Bv,Option.bind_some,AL,q0,q1,q2,q3,q4,hd,hb]
  exact HM H rfl hm (k c0 c1 c2 c3 c4 c5 c6 _ m d b hm)
noncomputable def sT (cells pieces names comp shelf:PV) (k things row v one told past:SV):List SV:=
 [.u,.d cells,k,.u,.u,.d pieces,.u,.u,.u,things,row,v,one,.d names,.u,.u,.d (.str vK),.u,told,past,.u,.u,.u,.u,.u,.u,.u,.u,.u,.u,
  .u,.u,.u,.u,.u,.u,.u,.u,.u,.u,.u,.u,.u,.u,.obj cQ comp,.u,.d shelf,.u,.u,.u,.u,.u,.u,.u,.u,.u,.u,.u,.u,.u,.u,.u,.u,.u,.u,.u,.u,.u]
theorem B0 {fc i l fi s st}:zB fc i l fi (s::st)=(de fi (s::st)).bind λd=>(fG d).bind λk=>(mQ ((s::st)[l]?)).bind λys=>
  if 0<=k then (ys[k.toNat]?).map λv=>(cF fc ((s::st).set l (.own (.list (ys.eraseIdx k.toNat)))) i (.d v),.next) else none:=by
 unfold zB;simp only [bV,b7]
theorem Gq (H:Wf W) {cells pieces names comp shelf:PV} {k v:Int} {j:Nat} {ys:List PV} {y row one told past} (hm:vP (.int v) (.int k)=some (.int (j:Nat))) (hy:ys[j]? =some y):
  (Xp H).1 (sT cells pieces names comp shelf (.d (.int k)) (.own (.list ys)) (.own row) (.d (.int v)) one told past)=some (sT cells pieces names comp shelf (.d (.int k)) (.own (.list (ys.eraseIdx j))) (.own row) (.d (.int v)) (.d y) (ci told) (ci past),.next):=by
 have h0:(0:Int)<=(j:Nat):=Int.natCast_nonneg j
 have h1:((j:Nat):Int).toNat=j:=Int.toNat_natCast j
 wp_walk using sT,Xp,B0,hm,om,jY,if_pos h0,h1,hy
noncomputable def mt (l:Nat->Int) (np:List Nat) (i:Nat):PV:=eC l (np.getD i 0)
theorem BA:an.map (λnp=>[0,1,2,3,4].map λq=>o7 [.list (np.map a7),a7 (np.getD q 0)])=an.map λnp=>[0,1,2,3,4].map λq=>some (iP q):=by kernel_rfl
theorem su {q:Nat} (h:q<5):q∈[0,1,2,3,4]:=by
 rcases (by w_fin:q=0∨q=1∨q=2∨q=3∨q=4) with rfl | rfl | rfl | rfl | rfl <;> decide
theorem Gs (H:Wf W) {cells pieces comp shelf:PV} {l:Nat->Int} {np:List Nat} {q:Nat} {r:List Nat} {k v things told past} (hr:np∈an) (hq:q<5) (hl:r.length<5):
  (Xq H).1 (sT cells pieces (.list (np.map a7)) comp shelf (.d k) (.own things) (.own (.list (r.map iP))) (.d v) (.d (mt l np q)) told past)=some (sT cells pieces (.list (np.map a7)) comp shelf (.d k) (.own things) (.own (.list ((r++[q]).map iP))) (.d v) (.d (mt l np q)) told past,.next):=by
 have h1:=aQ (aQ BA hr) (su hq)
 have h1:o7 [.list (np.map a7),.str [97 + np.getD q 0]]=some (iP q):=h1
 have h2:b9 (r.map iP++[iP q])=some (.list ((r++[q]).map iP)):=by
  rw [List.map_append]
  exact dC (by rw [jt,fJ];unfold be;simp;w_fin)
 wp_walk using sT,Xq,mt,eC,h1,h2,if_pos (show wf (.list (np.map a7))=some "list" from rfl)
noncomputable def pK (T:Nat->Bool) (sw:Bool):Nat->Nat->Nat->Option Nat
 | 0,_,_=>none
 | k+1,lo,hi=>if Nat.blt lo hi then (if (T ((lo + hi) / 2)==sw)=true then pK T sw k lo ((lo + hi) / 2) else pK T sw k ((lo + hi) / 2+1) hi) else some lo
theorem Eg {T sw k lo hi}:pK T sw (k+1) lo hi=if Nat.blt lo hi then (if (T ((lo + hi) / 2)==sw)=true then pK T sw k lo ((lo + hi) / 2) else pK T sw k ((lo + hi) / 2+1) hi) else some lo:=rfl
theorem w5 {t:PV->Option Bool} {sw xs} {T:Nat->Bool} {n:Nat} (h:∀ i,i<n->∃ y,xs[i]? =some y/\t y=some (T i)):∀ k lo hi,hi<=n->iE t sw xs k lo hi=pK T sw k lo hi:=by
 intro k
 induction k with
 | zero=>intro lo hi hn;rfl
 | succ k ih=>
  intro lo hi hn
  rw [w6,Eg]
  by_cases hlt:lo<hi
  ·rw [if_pos (Nat.blt_eq.mpr hlt),if_pos (Nat.blt_eq.mpr hlt)]
   have hm:(lo + hi) / 2<hi:=by w_fin
   obtain ⟨y,h1,h2⟩:=h ((lo + hi) / 2) (by w_fin)
   rw [h1,Option.bind_some,h2,Option.bind_some,ih _ _ (by w_fin),ih _ _ hn]
  ·rw [if_neg λw=>hlt (Nat.blt_eq.mp w),if_neg λw=>hlt (Nat.blt_eq.mp w)]
noncomputable def iS (n q:Nat):Nat:=max n (min (5 - n) q)
theorem FD:([0,1,2,3,4].all λq=>[0,1,2,3,4,5].all λz=>pK (λi=>decide (iG i q<0)) false 8 z (5 - z)==some (iS z q))=true:=by decide +kernel
theorem FE:([0,1,2,3,4].all λq=>[0,1,2,3,4,5].all λz=>pK (λi=>decide (0<iG i q)) true 8 z (5 - z)==some (iS z (q+1)))=true:=by decide +kernel
theorem tP {t sw fa fk dv s st}:kj t sw fa fk dv (s::st)=(fa (s::st)).bind λds=>(ve fk (s::st)).bind λkv=>(fy t sw (ds++dv) kv).map .d:=rfl
theorem w0 {t:SV->PV->PV->Option Bool} {sw xs F} {z:Nat} (hz:z∈[0,1,2,3,4,5]):fy t sw [.list xs,.int 0,.int (z:Nat),.int (5 - (z:Nat))] (.fn F)=(iE (t (.fn F) (.int 0)) sw xs 8 z (5 - z)).map λk=> .int (k:Nat):=by
 simp only [List.mem_cons,List.not_mem_nil,or_false] at hz
 rcases hz with rfl | rfl | rfl | rfl | rfl | rfl <;> rfl
def fq (comp:PV) (sh:Nat->PV):Prop:=∀ i j,i<5->j<5->pS comp [sh i,sh j]=some (.int (iG i j))
theorem yI {comp:PV} {sh:Nat->PV} {F:List PV->Option PV} {q i:Nat} (hc:fq comp sh) (hF:∀ y,F [y]=cK comp (sh q) [y]) (hq:q<5) (hi:i<5):oX (.fn F) (sh i)=some (.int (iG i q)):=by
 show (F [sh i]).bind _=_
 rw [hF,show cK comp (sh q) [sh i]=some (.int (iG i q)) from hc i q hi hq];rfl
theorem Dx (sh:Nat->PV) {i:Nat} (hi:i<5):[sh 0,sh 1,sh 2,sh 3,sh 4][i]? =some (sh i):=by
 rcases (by w_fin:i=0∨i=1∨i=2∨i=3∨i=4) with rfl | rfl | rfl | rfl | rfl <;> rfl
theorem Cx {comp:PV} {sh:Nat->PV} {F:List PV->Option PV} {q z:Nat} (hc:fq comp sh) (hF:∀ y,F [y]=cK comp (sh q) [y]) (hq:q<5) (hz:z∈[0,1,2,3,4,5]):
  fy eT false [.list [sh 0,sh 1,sh 2,sh 3,sh 4],.int 0,.int (z:Nat),.int (5 - (z:Nat))] (.fn F)=some (iP (iS z q)):=by
 rw [w0 hz,w5 (n:=5) (T:=λi=>decide (iG i q<0)) (λi hi=>⟨sh i,Dx sh hi,by
  show (oX (.fn F) (sh i)).bind _=_
  rw [yI hc hF hq hi];rfl⟩) 8 z (5 - z) (Nat.sub_le _ _),eq_of_beq (List.all_eq_true.mp (List.all_eq_true.mp FD q (su hq)) z hz)];rfl
theorem BX {comp:PV} {sh:Nat->PV} {F:List PV->Option PV} {q z:Nat} (hc:fq comp sh) (hF:∀ y,F [y]=cK comp (sh q) [y]) (hq:q<5) (hz:z∈[0,1,2,3,4,5]):
  fy eU true [.list [sh 0,sh 1,sh 2,sh 3,sh 4],.int 0,.int (z:Nat),.int (5 - (z:Nat))] (.fn F)=some (iP (iS z (q+1))):=by
 rw [w0 hz,w5 (n:=5) (T:=λi=>decide (0<iG i q)) (λi hi=>⟨sh i,Dx sh hi,by
  show (oX (.fn F) (sh i)).bind _=_
  rw [yI hc hF hq hi];rfl⟩) 8 z (5 - z) (Nat.sub_le _ _),eq_of_beq (List.all_eq_true.mp (List.all_eq_true.mp FE q (su hq)) z hz)];rfl
noncomputable def fm (q:Nat):PV:= .list ([0,1,2,3,4,5].map λn=>iP (iS n q))
theorem Gv (H:Wf W) {cells pieces names comp:PV} {sh:Nat->PV} {k v things row told past q} (hc:fq comp sh) (hq:q<5):
  (Xt H).1 (sT cells pieces names comp (.list [sh 0,sh 1,sh 2,sh 3,sh 4]) (.d k) (.own things) (.own row) (.d v) (.d (sh q)) told past)=some (sT cells pieces names comp (.list [sh 0,sh 1,sh 2,sh 3,sh 4]) (.d k) (.own things) (.own row) (.d v) (.d (sh q)) (.own (fm q)) past,.next):=by
 wp_walk using sT,Xt
 rw [fO [0,1,2,3,4,5] iP (λn=>[.u,.d (iP n),.u,.obj cQ comp,.d (sh q),.d (.list [sh 0,sh 1,sh 2,sh 3,sh 4])]) (λn=>iP (iS n q))]
 rotate_left
 ·wp_walk;rfl
 ·decide
 ·intro z hz;rfl
 ·intro w hw z hz;rfl
 ·intro z hz
  wp_walk using tP,iP
  generalize hF:qz _ _ _ _ _=F
  have hFe:∀ y:PV,F [y]=cK comp (sh q) [y]:=by
   intro y
   rw [<-hF,oZ (st':=[.d y,.obj cQ comp,.d (sh q)]) rfl]
   wp_walk using lJ
   rfl
  wp_walk using Cx hc hFe hq hz
  rfl
 wp_walk
 rfl
theorem Gw (H:Wf W) {cells pieces names comp:PV} {sh:Nat->PV} {k v things row told past q} (hc:fq comp sh) (hq:q<5):
  (Xu H).1 (sT cells pieces names comp (.list [sh 0,sh 1,sh 2,sh 3,sh 4]) (.d k) (.own things) (.own row) (.d v) (.d (sh q)) (.own told) past)=some (sT cells pieces names comp (.list [sh 0,sh 1,sh 2,sh 3,sh 4]) (.d k) (.own things) (.own row) (.d v) (.d (sh q)) (.own told) (.own (fm (q+1))),.next):=by
 wp_walk using sT,Xu
 rw [fO [0,1,2,3,4,5] iP (λn=>[.u,.d (iP n),.u,.obj cQ comp,.d (sh q),.d (.list [sh 0,sh 1,sh 2,sh 3,sh 4])]) (λn=>iP (iS n (q+1)))]
 rotate_left
 ·wp_walk;rfl
 ·decide
 ·intro z hz;rfl
 ·intro w hw z hz;rfl
 ·intro z hz
  wp_walk using tP,iP
  generalize hF:qz _ _ _ _ _=F
  have hFe:∀ y:PV,F [y]=cK comp (sh q) [y]:=by
   intro y
   rw [<-hF,oZ (st':=[.d y,.obj cQ comp,.d (sh q)]) rfl]
   wp_walk using lJ
   rfl
  wp_walk using BX hc hFe hq hz
  rfl
 wp_walk
 rfl
theorem Bw {cells pieces names comp shelf:PV} {k v things row told past one}:dH [18,19] (sT cells pieces names comp shelf (.d k) (.own things) (.own row) (.d v) (.d one) (.own told) (.own past))=some (sT cells pieces names comp shelf (.d k) (.own things) (.own row) (.d v) (.d one) (.d told) (.d past)):=by kernel_rfl
noncomputable def vS (a:Nat->PV) (m:Nat):List PV:=(List.range m).map a
theorem FN (H:Wf W) (k:bO) (cells pieces names comp shelf kk v things one:PV) (a:Nat->PV):[0,1,2,3,4].map (λm=>[0,1,2,3,4].map λq=>aV (Xv H).1 k (sT cells pieces names comp shelf (.d kk) (.own things) (.own (.list (vS a m++[iP q]))) (.d v) (.d one) (.d (fm q)) (.d (fm (q+1)))))=
  [0,1,2,3,4].map λm=>[0,1,2,3,4].map λq=>k (sT cells pieces names comp shelf (.d kk) (.own things) (.own (.list (vS a m++[iP q]))) (.d v) (.d one) (.d (fm q)) (.d (fm (q+1)))):=by kernel_rfl
theorem E3 {xs:List PV} {m:Nat} (h:xs.length=m):xs=vS (λi=>xs.getD i .none) m:=by
 subst h
 refine List.ext_getElem (by simp [vS]) λi h1 h2=>?_
 simp [vS,h1]
theorem Gx (H:Wf W) {k:bO} {cells pieces names comp shelf kk v things one:PV} {r:List Nat} {q} (hr:r.length<5) (hq:q<5):aV (Xv H).1 k (sT cells pieces names comp shelf (.d kk) (.own things) (.own (.list ((r++[q]).map iP))) (.d v) (.d one) (.d (fm q)) (.d (fm (q+1))))=
  k (sT cells pieces names comp shelf (.d kk) (.own things) (.own (.list ((r++[q]).map iP))) (.d v) (.d one) (.d (fm q)) (.d (fm (q+1)))):=by
 have e:=aQ (aQ (FN H k cells pieces names comp shelf kk v things one λi=>(r.map iP).getD i .none) (su hr)) (su hq)
 have e2:(r++[q]).map iP=vS (λi=>(r.map iP).getD i .none) r.length++[iP q]:=by
  rw [<-E3 (by rw [fJ]),List.map_append];rfl
 rw [e2]
 exact e
theorem Gy (H:Wf W) {cells pieces names comp shelf things row one told past:PV} {k v:Int} (hd:zl (.int v) (.int k)=some (.int (v / k))):(Xw H).1 (sT cells pieces names comp shelf (.d (.int k)) (.own things) (.own row) (.d (.int v)) (.d one) (.d told) (.d past))=some (sT cells pieces names comp shelf (.d (.int k)) (.own things) (.own row) (.d (.int (v / k))) (.d one) (.d told) (.d past),.next):=by
 wp_walk using sT,Xw,hd
theorem Ar (H:Wf W):(F3 H).1=aV (Xp H).1 (aV (Xq H).1 (aV (Xt H).1 (aV (Xu H).1 λst=>(dH [18,19] st).bind (aV (Xv H).1 (aV (Xw H).1 λst=>some (st,.next)))))):=by kernel_rfl
noncomputable def Dw (sh:Nat->PV):PV:= .list [sh 0,sh 1,sh 2,sh 3,sh 4]
theorem EN {α β:Type} {f:α->β}:∀ (l:List α) (j:Nat),(l.map f).eraseIdx j=(l.eraseIdx j).map f:=by
 intro l
 induction l with
 | nil=>exact λj=>rfl
 | cons a l ih=>
  intro j
  cases j with
  | zero=>rfl
  | succ j=>rw [List.map_cons,List.eraseIdx_cons_succ,List.eraseIdx_cons_succ,List.map_cons,ih j]
theorem DD (H:Wf W) {cells pieces comp:PV} {l:Nat->Int} {np qs r:List Nat} {k v:Int} {j q:Nat} {one told past} (hr:np∈an) (hc:fq comp (mt l np)) (hm:vP (.int v) (.int k)=some (.int (j:Nat))) (hd:zl (.int v) (.int k)=some (.int (v / k))) (hj:qs[j]? =some q) (hq:q<5) (hl:r.length<5):
  (F3 H).1 (sT cells pieces (.list (np.map a7)) comp (Dw (mt l np)) (.d (.int k)) (.own (.list (qs.map (mt l np)))) (.own (.list (r.map iP))) (.d (.int v)) one told past)=
   some (sT cells pieces (.list (np.map a7)) comp (Dw (mt l np)) (.d (.int k)) (.own (.list ((qs.eraseIdx j).map (mt l np)))) (.own (.list ((r++[q]).map iP))) (.d (.int (v / k))) (.d (mt l np q)) (.d (fm q)) (.d (fm (q+1))),.next):=by
 have hy:(qs.map (mt l np))[j]? =some (mt l np q):=by rw [gY,hj];rfl
 have he:(qs.map (mt l np)).eraseIdx j=(qs.eraseIdx j).map (mt l np):=EN _ _
 unfold Dw
 rw [Ar,aW,Gq H hm hy,bk,he,aW,Gs H hr hq hl,bk,aW,Gv H hc hq,bk,aW,Gw H hc hq,bk,Bw,Option.bind_some,Gx H hl hq,aW,Gy H hd,bk]
theorem HG {cells pieces names comp shelf:PV} {k things row v one told past d}:cF aD (sT cells pieces names comp shelf k things row v one told past) 2 (.d d)=sT cells pieces names comp shelf (.d d) things row v one told past:=by kernel_rfl
theorem rX {α:Type}:∀ {l:List α} {k:Nat} {v:α},l[k]? =some v->(v::l.eraseIdx k).Perm l:=by
 intro l
 induction l with
 | nil=>
  intro k v h
  simp at h
 | cons a l ih=>
  intro k
  cases k with
  | zero=>
   intro v h
   have:a=v:=by simpa using h
   subst this;exact List.Perm.refl _
  | succ k=>
   intro v h
   have h2:l[k]? =some v:=by simpa using h
   rw [List.eraseIdx_cons_succ]
   exact (List.Perm.swap _ _ _).trans (List.Perm.cons _ (ih h2))
noncomputable def p8:Nat->List PV
 | 0=>[]
 | n+1=> .int ((n+1:Nat):Int)::p8 n
theorem Bk {n}:p8 (n+1)= .int ((n+1:Nat):Int)::p8 n:=rfl
theorem Al (H:Wf W) {cells pieces comp:PV} {l:Nat->Int} {np s0:List Nat} (hr:np∈an) (hc:fq comp (mt l np)) (h5:∀ q∈s0,q<5) (hs5:s0.length=5):
  ∀ (n:Nat) (qs r:List Nat) (v:Int) (k one told past:SV),qs.length=n->(r++qs).Perm s0->
   ∃ (r':List Nat) (v':Int) (k' one' told' past':SV),r'.Perm s0/\d7 (λst d=>some (cF aD st 2 (.d d))) (F3 H).1 (p8 n) (sT cells pieces (.list (np.map a7)) comp (Dw (mt l np)) k (.own (.list (qs.map (mt l np)))) (.own (.list (r.map iP))) (.d (.int v)) one told past)=
    some (sT cells pieces (.list (np.map a7)) comp (Dw (mt l np)) k' (.own (.list [])) (.own (.list (r'.map iP))) (.d (.int v')) one' told' past',.next):=by
 intro n
 induction n with
 | zero=>
  intro qs r v k one told past hq hp
  obtain rfl:=List.eq_nil_of_length_eq_zero hq
  rw [List.append_nil] at hp
  exact ⟨r,v,k,one,told,past,hp,rfl⟩
 | succ n ih=>
  intro qs r v k one told past hq hp
  have hlen:r.length + (n+1)=5:=by
   have:=hp.length_eq
   rw [jt,hq,hs5] at this
   exact this
  have hb:(0:Int)<((n+1:Nat):Int)/\((n+1:Nat):Int)<1073741824:=by w_fin
  have h0:0<=v % ((n+1:Nat):Int):=Int.emod_nonneg _ (by w_fin)
  have h1:v % ((n+1:Nat):Int)<((n+1:Nat):Int):=Int.emod_lt_of_pos _ hb.1
  have hj:(v % ((n+1:Nat):Int)).toNat<qs.length:=by w_fin
  have hm:vP (.int v) (.int ((n+1:Nat):Int))=some (.int (((v % ((n+1:Nat):Int)).toNat:Nat):Int)):=by rw [jy hb,Int.toNat_of_nonneg h0]
  generalize (v % ((n+1:Nat):Int)).toNat=j at hj hm
  have hqj:=List.getElem?_eq_getElem hj
  generalize qs[j]=q at hqj
  have hq5:q<5:=h5 q (hp.mem_iff.mp (lR _ (List.mem_of_getElem? hqj)))
  have e:=DD H (cells:=cells) (pieces:=pieces) (one:=one) (told:=told) (past:=past) hr hc hm (mi hb) hqj hq5 (r:=r) (by w_fin)
  obtain ⟨r',v',k',one',told',past',h3,h4⟩:=ih (qs.eraseIdx j) (r++[q]) (v / ((n+1:Nat):Int)) (.d (.int ((n+1:Nat):Int))) (.d (mt l np q)) (.d (fm q)) (.d (fm (q+1))) (by rw [List.length_eraseIdx,if_pos hj];w_fin) (by
   rw [kr]
   exact (List.Perm.append_left r (rX hqj)).trans hp)
  refine ⟨r',v',k',one',told',past',h3,?_⟩
  rw [Bk,cR (congrArg some HG) e]
  exact h4
theorem DZ (H:Wf W) {cells pieces:PV} {l d b v np}:(DY H).1 (sU cells pieces l d b v np)=d7 (λst d=>some (cF aD st 2 (.d d))) (F3 H).1 (p8 5) (sT cells pieces (.list (np.map a7)) (lF d b) (.list (np.map (eC l))) .u (.own (.list [eC l 0,eC l 1,eC l 2,eC l 3,eC l 4])) (.own (.list ([].map iP))) (.d (.int v)) .u .u .u):=by kernel_rfl
noncomputable def B2 (np:List Nat):List Nat:=[0,1,2,3,4].map λp=>(List.range 5).countP λi=>Nat.blt ((List.range 5).countP λj=>Nat.beq (np.getD j 0) p&&Nat.ble j i) 1
theorem uQ (l:Nat->Int):an.map (λnp=>(PV.list ((B2 np).map (mt l np)),PV.list (np.map (eC l))))=an.map λnp=>(PV.list [eC l 0,eC l 1,eC l 2,eC l 3,eC l 4],Dw (mt l np)):=by kernel_rfl
theorem B3:an.all (λnp=>gG (B2 np))=true:=by kernel_rfl
theorem Ch {cells pieces names comp:PV} {sh:Nat->PV} {r:List Nat} {v k one told past}:dH [10] (jT [9,11,12,18,19,2,16] (sT cells pieces names comp (Dw sh) k (.own (.list [])) (.own (.list (r.map iP))) (.d (.int v)) one told past))=some (Cg cells pieces names comp (.list [sh 0,sh 1,sh 2,sh 3,sh 4]) r):=by kernel_rfl
theorem o3:∀ r:List Nat,HU r=true↔r.Nodup:=by
 intro r
 induction r with
 | nil=>exact ⟨λU=>List.nodup_nil,λU=>rfl⟩
 | cons x r ih=>
  rw [List.nodup_cons,<-ih]
  show (r.all (λy=>!Nat.beq x y)&&HU r)=true↔_
  rw [Bool.and_eq_true,List.all_eq_true]
  refine and_congr_left λU=>⟨λh hx=>?_,λh y hy=>?_⟩
  ·have:=h x hx
   rw [Nat.beq_refl] at this;w_cond this
  ·rw [Bool.not_eq_true',Bool.eq_false_iff]
   exact λq=>h (Nat.eq_of_beq_eq_true q ▸ hy)
theorem sj {r s:List Nat} (hp:r.Perm s) (h:gG s=true):gG r=true:=by
 unfold gG at h ⊢
 simp only [Bool.and_eq_true,List.all_eq_true] at h ⊢
 obtain ⟨⟨h1,h2⟩,h3⟩:=h
 exact ⟨⟨by rw [hp.length_eq];exact h1,λx hx=>h2 x (hp.mem_iff.mp hx)⟩,(o3 r).mpr (hp.nodup_iff.mpr ((o3 s).mp h3))⟩
theorem fq.ok {comp sh} (h:fq comp sh):wr comp sh:=λa b ha hb hn=>by
 rw [h a b ha hb]
 unfold iG
 by_cases h1:b<a
 ·rw [if_pos (Nat.blt_eq.mpr h1),if_pos (Nat.blt_eq.mpr h1)]
 ·rw [if_neg λq=>h1 (Nat.blt_eq.mp q),if_neg λq=>h1 (Nat.blt_eq.mp q),if_pos (Nat.blt_eq.mpr (by w_fin))]
theorem ll {a b:Nat} (h:a<b):iG a b= -1/\iG b a=1:=by
 unfold iG
 rw [if_neg λq=>Nat.lt_asymm h (Nat.blt_eq.mp q),if_pos (Nat.blt_eq.mpr h),if_pos (Nat.blt_eq.mpr h)]
 exact ⟨rfl,rfl⟩
theorem u0 (a:Nat):iG a a=0:=by
 unfold iG
 rw [if_neg λq=>Nat.lt_irrefl _ (Nat.blt_eq.mp q),if_neg λq=>Nat.lt_irrefl _ (Nat.blt_eq.mp q)]
theorem vA {m d b} (hm:m<243):fq (lF (dU d) (dU b)) (mt (dz m) (kK m d b)):=λi j hi hj=>by
 have hq:(d,b)∈Bg:=by cases d <;> cases b <;> decide
 have hn:kK m d b∈an:=du (List.all_eq_true.mp (List.all_eq_true.mp o6 m (List.mem_range.mpr hm)) (d,b) hq)
 have hp:=E5 (l:=(kK m d b).map (yH m d b)) (List.all_eq_true.mp (List.all_eq_true.mp BE m (List.mem_range.mpr hm)) (d,b) hq)
 have hl:=fE hn
 have h5 k:(kK m d b).getD k 0<5:=by
  have h:an.all (λr=>r.all (λx=>Nat.blt x 5))=true:=by kernel_rfl
  rw [List.getD_eq_getElem?_getD]
  cases e:(kK m d b)[k]? with
  | none=>decide
  | some x=>exact Nat.blt_eq.mp (List.all_eq_true.mp (List.all_eq_true.mp h _ hn) x (List.mem_of_getElem? e))
 have h3 k:Bi m k∈[0,1,2]:=by
  rw [show [0,1,2]=List.range 3 from rfl];exact List.mem_range.mpr (Nat.mod_lt _ (by decide))
 have e1:=aQ (aQ (aQ (aQ Bb hq) (h3 ((kK m d b).getD i 0))) (h3 ((kK m d b).getD j 0))) (HR (h5 i) (h5 j))
 refine e1.trans (congrArg (λz=>some (PV.int z)) ?_)
 show iG (yH m d b ((kK m d b).getD i 0)) (yH m d b ((kK m d b).getD j 0))=iG i j
 rw [List.pairwise_map,List.pairwise_iff_getElem] at hp
 have g {k} (hk:k<(kK m d b).length):(kK m d b).getD k 0=(kK m d b)[k]:=by
  rw [List.getD_eq_getElem?_getD,List.getElem?_eq_getElem hk];rfl
 rw [g (Nat.lt_of_lt_of_eq hi hl.symm),g (Nat.lt_of_lt_of_eq hj hl.symm)]
 rcases Nat.lt_trichotomy i j with h | h | h
 ·rw [(ll (hp i j _ _ h)).1,(ll h).1]
 ·subst h;rw [u0,u0]
 ·rw [(ll (hp j i _ _ h)).2,(ll h).2]
theorem HN (H:Wf W) {cells pieces:PV} {m d b v} (hm:m<243) (k:∀ np∈an,∀ r∈an,y8 (HF H (Aq cells pieces (.list (np.map a7)) r))):y8 (aV (DY H).1 (CP H).1 (sU cells pieces (dz m) (dU d) (dU b) v (kK m d b))):=by
 have hn:gG (kK m d b)=true:=List.all_eq_true.mp (List.all_eq_true.mp o6 m (List.mem_range.mpr hm)) (d,b) (by cases d <;> cases b <;> decide)
 have hr:=du hn
 have hc:=vA (d:=d) (b:=b) hm
 generalize kK m d b=np at hn hr hc
 have hpr:=List.all_eq_true.mp B3 np hr
 have hp1:=congrArg (·.1) (aQ (uQ (dz m)) hr)
 have hp2:=congrArg (·.2) (aQ (uQ (dz m)) hr)
 have hp1:PV.list ((B2 np).map (mt (dz m) np))=PV.list [eC (dz m) 0,eC (dz m) 1,eC (dz m) 2,eC (dz m) 3,eC (dz m) 4]:=hp1
 have hp2:PV.list (np.map (eC (dz m)))=Dw (mt (dz m) np):=hp2
 have hpq:=hpr
 unfold gG at hpq
 simp only [Bool.and_eq_true,List.all_eq_true] at hpq
 obtain ⟨r',v',k',one',told',past',h3,h4⟩:=Al H (cells:=cells) (pieces:=pieces) hr hc (λq hq=>Nat.blt_eq.mp (hpq.1.2 q hq)) (Nat.eq_of_beq_eq_true hpq.1.1) 5 (B2 np) [] v .u .u .u .u (Nat.eq_of_beq_eq_true hpq.1.1) (List.Perm.refl _)
 have hr':=du (sj h3 hpr)
 obtain ⟨st',hk⟩:=k np hr r' hr'
 refine ⟨st',?_⟩
 rw [aW,DZ,<-hp1,hp2,h4,bk]
 exact DU H hr' hc.ok Ch hk
theorem EK (H:Wf W) (xs:List Int) (k:∀ (c0 c1 c2 c3 c4 c5 c6:Int) (p:Nat->Int),∀ np∈an,∀ r∈an,y8 (HF H (Aq (bP c0 c1 c2 c3 c4 c5 c6) (bW λk=>qD (p k)) (.list (np.map a7)) r))):fC (bC aD [0] (CM H).1) [.list (xs.map .int)]=some (.bool true):=
 HK H xs λcs h7=>HL H h7 λc0 c1 c2 c3 c4 c5 c6 p m d b hm=>HN H hm (k c0 c1 c2 c3 c4 c5 c6 p)
theorem zp {a b:Int}:EY [.int a,.int b]=some (.int (if b > a then b else a)):=rfl
theorem vO {xs:List PV} {i:Int} (h1:i<0) (h2: -(xs.length:Int)<=i):∃ y,y∈xs/\a8 (.list xs) (.int i)=some y:=by
 have hk:(i + xs.length).toNat<xs.length:=by w_fin
 refine ⟨xs[(i + xs.length).toNat],List.getElem_mem hk,?_⟩
 show (kJ i xs.length).bind _=_
 unfold kJ
 rw [if_neg (by w_fin),if_pos h2,Option.bind_some,List.getElem?_eq_getElem hk]
theorem vW:an.all (λr=>Nat.blt 0 (cW r).length&&Nat.blt (cW r).length 1000)=true:=by kernel_rfl
theorem D9 (H:Wf W) {pieces names:PV} {c0 c1 c2 c3 c4 c5 c6:Int} {r:List Nat} (hr:r∈an):∃ r2∈cW r,(IO H).1 (Aq (bP c0 c1 c2 c3 c4 c5 c6) pieces names r)=d7 (λst d=>some (cF aD st 27 (.d d))) (Jb H).1 [bH r,bH r2] (Aq (bP c0 c1 c2 c3 c4 c5 c6) pieces names r):=by
 have hl:=List.all_eq_true.mp vW r hr
 rw [Bool.and_eq_true] at hl
 have hl1:=Nat.blt_eq.mp hl.1
 have hl2:=Nat.blt_eq.mp hl.2
 generalize hM:(if ((cW r).length:Int) - 1 > 1 then ((cW r).length:Int) - 1 else 1)=M
 have hM1:0<M/\M<1073741824/\M<=(cW r).length:=by
  rw [<-hM]
  split <;> w_fin
 have e1:BW [jC (cW r)]=some (.int (cW r).length):=by
  unfold jC;rw [jZ,fJ]
 have g0:0<=c6 / 8 % M:=Int.emod_nonneg _ (by w_fin)
 have g1:c6 / 8 % M<M:=Int.emod_lt_of_pos _ hM1.1
 obtain ⟨y,hy,e2⟩:=vO (xs:=(cW r).map bH) (i:= -1 - c6 / 8 % M) (by w_fin) (by rw [fJ];w_fin)
 obtain ⟨r2,h2,rfl⟩:=iW hy
 have e3:a8 (jC (cW r)) (.int (-1 - c6 / 8 % M))=some (bH r2):=e2
 have e4:vP (.int (c6 / 8)) (.int M)=some (.int (c6 / 8 % M)):=jy ⟨hM1.1,hM1.2.1⟩
 have e5:a8 (bP c0 c1 c2 c3 c4 c5 c6) (.int 6)=some (.int c6):=rfl
 refine ⟨r2,h2,?_⟩
 wp_walk using Aq,IL,IO,e1,e5,zp,mi,hM,e4,e3
 try rfl
def i6 (f g:Lt):Prop:=∀ r,sQ none false (f++r)=g++sQ none false r
theorem i6.app {a b c d} (h1:i6 a b) (h2:i6 c d):i6 (a++c) (b++d):=λr=>by
 erw [kr,h1,h2,kr]
theorem i6.nil:i6 [] []:=λr=>rfl
theorem i6.one {c} (h1:c≠34) (h2:c≠92):i6 [c] [c]:=λr=>by
 show sQ none false (c::r)=c::sQ none false r
 rw [nR,if_neg h1,show (c==92)=false by simpa using h2]
theorem dP:i6 [] []/\i6 [92,40] [92,40]/\i6 [92,41] [92,41]/\i6 [34,41,34] []/\i6 [34,40,92,34,40,34] []/\i6 [92,92] [92,92]:=
 ⟨λr=>rfl,λr=>rfl,λr=>rfl,λr=>rfl,λr=>rfl,λr=>rfl⟩
noncomputable def jz:Nat->List Lt->List (Nat×Lt)
 | _,[]=>[]
 | p,u::us=>(p + u.length - 1,u)::jz (p + u.length) us
theorem pi {v0}:jz v0 []=[]:=rfl
theorem jA {p u us}:jz p (u::us)=(p + u.length - 1,u)::jz (p + u.length) us:=rfl
theorem zC:∀ (us vs:List Lt) (p:Nat),jz p (us++vs)=jz p us++jz (p + us.flatten.length) vs:=by
 intro zv
 induction zv with
 | nil=>
  intro vs p
  simp [pi,jA]
 | cons u us ih=>
  intro vs p
  rw [List.cons_append,jA,ih vs,jA,List.flatten_cons,jt]
  simp [Nat.add_assoc]
theorem mo:∀ (us:List Lt) (p:Nat),(jz p us).map (·.2)=us:=by
 intro zv
 induction zv with
 | nil=>exact λU=>rfl
 | cons u us ih=>
  intro p
  simp [pi,jA,ih]
def UU (f:Lt) (us:List Lt):Prop:=f=us.flatten/\∀ p r,ch p false (f++r)=jz p us++ch (p + f.length) false r
theorem UU.nil:UU [] []:=⟨rfl,λp r=>rfl⟩
theorem UU.app {a b us vs} (h1:UU a us) (h2:UU b vs):UU (a++b) (us++vs):=by
 refine ⟨by erw [h1.1,h2.1,List.flatten_append],λp r=>?_⟩
 rw [kr,h1.2,h2.2,zC,<-h1.1,kr,jt,Nat.add_assoc]
theorem UU.one {c} (h:c≠92):UU [c] [[c]]:=⟨rfl,λp r=>by
 show ch p false (c::r)=_
 rw [fT,if_neg h];rfl⟩
theorem UU.esc (c):UU [92,c] [[92,c]]:=⟨rfl,λp r=>rfl⟩
theorem AU (k:Nat) (v:Lt) (us:List Lt):cP k (v::us)=if v=[40] then cP (k+1) us else if v=[41] then (match k with | 0=>false | k+1=>cP k us) else cP k us:=by
 cases k <;> rfl
noncomputable abbrev Jy:FC:=aH 18 [] none
def vN (r:PV) (x:Option (List SV×Fl)):Prop:=jX x=some (.d r)
theorem Hf {fc ix fb ds st d} (h1:aY fc ix (ds.map .d) (bc fc)=some st) (h2:vN d (fb st)):fC (bC fc ix fb) ds=some d:=by
 unfold fC bC
 erw [h1,Option.bind_some,show jX (fb st)=some (.d d) from h2];rfl
noncomputable def ry (r:List Nat) (k:Nat):Nat:=(List.range 5).countP λi=>Nat.beq (fW r i).1 k
noncomputable def wk (r:List Nat) (k:Nat):Nat:=(List.range 5).countP λi=>Nat.beq (fW r i).2 k
noncomputable def GL (r:List Nat):List Nat:=[0,1,2,3,4].flatMap λk=>List.replicate (ry r k) k
noncomputable def Hb (r:List Nat):List Nat:=[0,1,2,3,4].flatMap λk=>List.replicate (wk r k) k
noncomputable def Fp (row names pieces:PV) (begins ends out i first last k x opened closed:SV):List SV:=
 [.d row,.d names,.d pieces,begins,ends,out,i,first,last,k,x,opened,closed,.u,.u,.u,.u,.u,.u,.u,.u]
theorem Cr (H:Wf W) (names pieces:PV):an.map (λr=>(Jc H).1 (Fp (bH r) names pieces .u .u .u .u .u .u .u .u .u .u))=
  an.map λr=>(DF H).1 (Fp (bH r) names pieces (.own (bH (GL r))) (.own (bH (Hb r))) (.own (.list [])) (.d (iP 4)) (.d (iP (fW r 4).1)) (.d (iP (fW r 4).2)) .u .u .u .u):=by kernel_rfl
noncomputable def q9 (r:List Nat) (names pieces:PV) (out k x opened closed:SV):List SV:=
 Fp (bH r) names pieces (.d (bH (GL r))) (.d (bH (Hb r))) out (.d (iP 4)) (.d (iP (fW r 4).1)) (.d (iP (fW r 4).2)) k x opened closed
theorem Ae (H:Wf W) (names pieces:PV) (out o c:SV):an.map (λr=>[0,1,2,3,4].map λk=>(DG H).1 (q9 r names pieces out (.d (iP k)) (.d (iP (r.getD k 0))) o c))=
  an.map λr=>[0,1,2,3,4].map λk=>some (q9 r names pieces out (.d (iP k)) (.d (iP (r.getD k 0))) (.d (iP (ry r k))) (.d (iP (wk r k))),.next):=by kernel_rfl
theorem xC:an.map (λr=>en 0 (r.map iP))=an.map λr=>[0,1,2,3,4].map λk=>PV.tuple [iP k,iP (r.getD k 0)]:=by kernel_rfl
theorem g8 {r} (hr:r∈an) (k:Nat):r.getD k 0<5:=by
 have h:an.all (λr=>r.all (λx=>Nat.blt x 5))=true:=by kernel_rfl
 rw [List.getD_eq_getElem?_getD]
 cases e:r[k]? with
 | none=>decide
 | some x=>exact Nat.blt_eq.mp (List.all_eq_true.mp (List.all_eq_true.mp h r hr) x (List.mem_of_getElem? e))
noncomputable def aZ (np:List Nat) (x:Nat):Lt:=[97 + np.getD x 0]
theorem uC {np x} (hn:np∈an) (hx:x<5):a8 (.list (np.map a7)) (iP x)=some (.str (aZ np x)):=ef (by
 have h:=fE hn
 have:x<np.length:=by omega
 rw [gY,List.getElem?_eq_getElem this]
 unfold aZ
 simp [a7,this])
theorem BY {g:Nat->Lt} {q} (hq:q<5):a8 (bW g) (.str [97 + q])=some (.str (g q)):=by
 match q,hq with
 | 0,_=>rfl
 | 1,_=>rfl
 | 2,_=>rfl
 | 3,_=>rfl
 | 4,_=>rfl
theorem uM {c n:Nat} (h:n<100000):Dt (.str [c]) (iP n)=some (.str (List.replicate n c)):=by
 show (if _ then _ else _)=_
 exact if_pos h
noncomputable def g9 (np:List Nat) (g:Nat->Lt) (r:List Nat) (k:Nat):Lt:=((List.replicate (ry r k) 40++aZ np (r.getD k 0))++g (np.getD (r.getD k 0) 0))++List.replicate (wk r k) 41
theorem ly (r k):ry r k<=5:=Nat.le_trans List.countP_le_length (by decide)
theorem rT (r k):wk r k<=5:=Nat.le_trans List.countP_le_length (by decide)
theorem zT (H) {r np} {g:Nat->Lt} (hr:r∈an) (hn:np∈an) (hg:∀ q,(g q).length<=6) {k} (hk:k<5) {outs:List Lt} (ho:outs.length<100) {o c}:
  (DE H).1 (q9 r (.list (np.map a7)) (bW g) (.own (.list (outs.map .str))) (.d (iP k)) (.d (iP (r.getD k 0))) o c)=some (q9 r (.list (np.map a7)) (bW g) (.own (.list ((outs++[g9 np g r k]).map .str))) (.d (iP k)) (.d (iP (r.getD k 0))) (.d (iP (ry r k))) (.d (iP (wk r k))),.next):=by
 have e1:=aQ (aQ (Ae H (.list (np.map a7)) (bW g) (.own (.list (outs.map .str))) o c) hr) (su hk)
 have h1:=uC hn (g8 hr k)
 have h2:a8 (bW g) (.str (aZ np (r.getD k 0)))=some (.str (g (np.getD (r.getD k 0) 0))):=BY (g8 hn _)
 have h3:=uM (c:=40) (n:=ry r k) (by have:=ly r k;omega)
 have h4:=uM (c:=41) (n:=wk r k) (by have:=rT r k;omega)
 have hgl:=hg (np.getD (r.getD k 0) 0)
 have h5:ei (List.replicate (ry r k) 40++aZ np (r.getD k 0))=some (.str (List.replicate (ry r k) 40++aZ np (r.getD k 0))):=dg (by have:=ly r k;simp only [jt,List.length_replicate,aZ,List.length_cons,List.length_nil,be];omega)
 have h6:ei (List.replicate (ry r k) 40++aZ np (r.getD k 0)++g (np.getD (r.getD k 0) 0))=some (.str (List.replicate (ry r k) 40++aZ np (r.getD k 0)++g (np.getD (r.getD k 0) 0))):=dg (by have:=ly r k;simp only [jt,List.length_replicate,aZ,List.length_cons,List.length_nil,be];omega)
 have h7:ei (List.replicate (ry r k) 40++aZ np (r.getD k 0)++g (np.getD (r.getD k 0) 0)++List.replicate (wk r k) 41)=some (.str (g9 np g r k)):=dg (by have:=ly r k;have:=rT r k;simp only [jt,List.length_replicate,aZ,List.length_cons,List.length_nil,be];omega)
 have h8:b9 (outs.map PV.str++[.str (g9 np g r k)])=some (.list ((outs++[g9 np g r k]).map .str)):=by
  erw [List.map_append];exact dC (by simp [be];omega)
 show aV (DG H).1 (aV (DH H).1 _) _=_
 rw [aW,e1,bk,aW]
 unfold q9 Fp
 wp_walk using DH,h1,h2,h3,h4,h5,h6,h7,h8
theorem zU (H) {r np} {g:Nat->Lt} (hr:r∈an) (hn:np∈an) (hg:∀ q,(g q).length<=6) (ks:List Nat):∀ (outs:List Lt) (k0 x0 o c:SV),(∀ k∈ks,k<5)->outs.length + ks.length<100->
  ∃ k' x' o' c',d7 (kA Jy 9 10) (DE H).1 (ks.map λk=>PV.tuple [iP k,iP (r.getD k 0)]) (q9 r (.list (np.map a7)) (bW g) (.own (.list (outs.map .str))) k0 x0 o c)=some (q9 r (.list (np.map a7)) (bW g) (.own (.list ((outs++ks.map (g9 np g r)).map .str))) k' x' o' c',.next):=by
 induction ks with
 | nil=>exact λouts k0 x0 o c U U=>⟨k0,x0,o,c,by simp only [List.map_nil,List.append_nil];rfl⟩
 | cons k ks ih=>
  intro outs k0 x0 o c hk ho
  rw [List.length_cons] at ho
  obtain ⟨k',x',o',c',e⟩:=ih (outs++[g9 np g r k]) (.d (iP k)) (.d (iP (r.getD k 0))) (.d (iP (ry r k))) (.d (iP (wk r k))) (λz hz=>hk z (by simp [hz])) (by simp;omega)
  refine ⟨k',x',o',c',?_⟩
  rw [List.map_cons,cR rfl (zT H hr hn hg (hk k (by simp)) (by omega)),e,kr]
  rfl
noncomputable def we (np:List Nat) (g:Nat->Lt) (r:List Nat):Lt:=([0,1,2,3,4].map (g9 np g r)).flatten
theorem Cd {np g r k} (hg:∀ q,(g q).length<=6):(g9 np g r k).length<=17:=by
 have:=ly r k
 have:=rT r k
 have:=hg (np.getD (r.getD k 0) 0)
 unfold g9 aZ
 simp only [jt,List.length_replicate,List.length_cons,List.length_nil];omega
theorem xG {f:Nat->Lt} {m} (h:∀ k,(f k).length<=m) (ks:List Nat):(ks.map f).flatten.length<=ks.length * m:=by
 induction ks with
 | nil=>exact Nat.zero_le _
 | cons k ks ih=>
  rw [List.map_cons,List.flatten_cons,jt,List.length_cons,Nat.succ_mul,Nat.add_comm]
  exact Nat.add_le_add ih (h k)
theorem pp {np g r} (hg:∀ q,(g q).length<=6):(we np g r).length<=85:=xG (λk=>Cd hg) [0,1,2,3,4]
theorem Ct (H) {r np} {g:Nat->Lt} (hr:r∈an) (hn:np∈an) (hg:∀ q,(g q).length<=6):gt H [bH r,.list (np.map a7),bW g]=some (.str (we np g r)):=by
 refine Hf (st:=Fp (bH r) (.list (np.map a7)) (bW g) .u .u .u .u .u .u .u .u .u .u) rfl ?_
 unfold vN
 rw [aQ (Cr H (.list (np.map a7)) (bW g)) hr]
 obtain ⟨k',x',o',c',e⟩:=zU H hr hn hg [0,1,2,3,4] [] .u .u .u .u (by decide) (by decide)
 have he:uK [bH r]=some ([0,1,2,3,4].map λk=>PV.tuple [iP k,iP (r.getD k 0)]):=(congrArg some (aQ xC hr):)
 have hg2:ei (List.map (g9 np g r) [0,1,2,3,4]).flatten=some (.str (we np g r)):=dg (by have:(List.map (g9 np g r) [0,1,2,3,4]).flatten.length<=85:=pp hg;unfold be;omega)
 generalize [0,1,2,3,4].map (λk=>PV.tuple [iP k,iP (r.getD k 0)])=L at e he
 rw [List.nil_append] at e
 generalize List.map (g9 np g r) [0,1,2,3,4]=ls at e hg2
 unfold q9 Fp at e
 unfold Fp
 wp_walk using DF,he
 erw [e]
 wp_walk using hg2
noncomputable def Fu (i:Int):Lt:=([[],[92,40],[92,41],[],[],[92,92]]:List Lt).getD (i % 6).toNat []
noncomputable def F1 (i:Int):List (Lt×Nat):=([[],[([92,40],7)],[([92,41],7)],[],[],[([92,92],7)]]:List (List (Lt×Nat))).getD (i % 6).toNat []
theorem I5 (i:Int):∃ k,k<6/\(i % 6).toNat=k:=⟨_,by omega,rfl⟩
theorem uA (i):(qD i).length<=6:=by
 obtain ⟨k,hk,e⟩:=I5 i
 unfold qD
 rw [e]
 match k,hk with
 | 0,_=>decide
 | 1,_=>decide
 | 2,_=>decide
 | 3,_=>decide
 | 4,_=>decide
 | 5,_=>decide
theorem Jw (i):i6 (qD i) (Fu i):=by
 obtain ⟨k,hk,e⟩:=I5 i
 unfold qD Fu
 rw [e]
 match k,hk with
 | 0,_=>exact dP.1
 | 1,_=>exact dP.2.1
 | 2,_=>exact dP.2.2.1
 | 3,_=>exact dP.2.2.2.1
 | 4,_=>exact dP.2.2.2.2.1
 | 5,_=>exact dP.2.2.2.2.2
def CL (np:List Nat) (z:Lt×Nat):Prop:=(z=([40],0))∨(z=([41],1))∨(∃ x,x<5/\z=(aZ np x,2 + x))∨∃ c,c≠34/\z=([92,c],7)
theorem tc (np i):UU (Fu i) ((F1 i).map (·.1))/\(∀ z∈F1 i,CL np z)/\∃ n,n<2/\(F1 i).map (·.2)=List.replicate n 7:=by
 obtain ⟨k,hk,e⟩:=I5 i
 unfold Fu F1
 rw [e]
 have no:UU [] (([]:List (Lt×Nat)).map (·.1))/\(∀ z∈([]:List (Lt×Nat)),CL np z)/\∃ n,n<2/\([]:List (Lt×Nat)).map (·.2)=List.replicate n 7:=⟨UU.nil,λz h=>by w_cond h,0,by decide,rfl⟩
 have one c (hc:c≠34):UU [92,c] ([(([92,c],7):Lt×Nat)].map (·.1))/\(∀ z∈[(([92,c],7):Lt×Nat)],CL np z)/\∃ n,n<2/\[(([92,c],7):Lt×Nat)].map (·.2)=List.replicate n 7:=⟨UU.esc c,λz h=>by rw [aE h];exact .inr (.inr (.inr ⟨c,hc,rfl⟩)),1,by decide,rfl⟩
 match k,hk with
 | 0,_=>exact no
 | 1,_=>exact one 40 (by decide)
 | 2,_=>exact one 41 (by decide)
 | 3,_=>exact no
 | 4,_=>exact no
 | 5,_=>exact one 92 (by decide)
theorem tY {c} (h1:c≠34) (h2:c≠92) (n):i6 (List.replicate n c) (List.replicate n c):=by
 induction n with
 | zero=>exact i6.nil
 | succ n ih=>exact (i6.one h1 h2).app ih
theorem Ai {c t} (h2:c≠92) (n):UU (List.replicate n c) ((List.replicate n (([c],t):Lt×Nat)).map (·.1)):=by
 induction n with
 | zero=>exact UU.nil
 | succ n ih=>exact (UU.one h2).app ih
theorem yP (np) {x} (hx:∀ x,np.getD x 0<5):∃ c,aZ np x=[c]/\97<=c/\c<102:=⟨_,rfl,by omega,by have:=hx x;omega⟩
theorem Be {np g g'} (hx:∀ x,np.getD x 0<5) (h:∀ q,i6 (g q) (g' q)) (r k):i6 (g9 np g r k) (g9 np g' r k):=by
 obtain ⟨c,hc,h1,h2⟩:=yP np (x:=r.getD k 0) hx
 unfold g9
 rw [hc]
 exact (((tY (by decide) (by decide) _).app (i6.one (by omega) (by omega))).app (h _)).app (tY (by decide) (by decide) _)
theorem xr {f f':Nat->Lt} (h:∀ k,i6 (f k) (f' k)) (ks:List Nat):i6 (ks.map f).flatten (ks.map f').flatten:=by
 induction ks with
 | nil=>exact i6.nil
 | cons k ks ih=>
  rw [List.map_cons,List.map_cons,List.flatten_cons,List.flatten_cons]
  exact (h k).app ih
noncomputable def sW (np:List Nat) (zf:Nat->List (Lt×Nat)) (r:List Nat) (k:Nat):List (Lt×Nat):=((List.replicate (ry r k) ([40],0)++[(aZ np (r.getD k 0),2 + r.getD k 0)])++zf (np.getD (r.getD k 0) 0))++List.replicate (wk r k) ([41],1)
noncomputable def Cz (np:List Nat) (zf:Nat->List (Lt×Nat)) (r:List Nat):List (Lt×Nat):=([0,1,2,3,4].map (sW np zf r)).flatten
theorem FK {np g zf} (hx:∀ x,np.getD x 0<5) (h:∀ q,UU (g q) ((zf q).map (·.1))) (r k):UU (g9 np g r k) ((sW np zf r k).map (·.1)):=by
 obtain ⟨c,hc,h1,h2⟩:=yP np (x:=r.getD k 0) hx
 unfold g9 sW
 rw [hc,List.map_append,List.map_append,List.map_append]
 exact (((Ai (by decide) _).app (UU.one (by omega))).app (h _)).app (Ai (by decide) _)
theorem CA {f:Nat->Lt} {z:Nat->List (Lt×Nat)} (h:∀ k,UU (f k) ((z k).map (·.1))) (ks:List Nat):UU (ks.map f).flatten (((ks.map z).flatten).map (·.1)):=by
 induction ks with
 | nil=>exact UU.nil
 | cons k ks ih=>
  rw [List.map_cons,List.map_cons,List.flatten_cons,List.flatten_cons,List.map_append]
  exact (h k).app ih
theorem Ek {np zf r} (hr:∀ x,r.getD x 0<5) (h:∀ q,∀ z∈zf q,CL np z) (k):∀ z∈sW np zf r k,CL np z:=by
 intro z hz
 unfold sW at hz
 rcases aw hz with hz | hz
 ·rcases aw hz with hz | hz
  ·rcases aw hz with hz | hz
   ·exact .inl (List.eq_of_mem_replicate hz)
   ·exact .inr (.inr (.inl ⟨_,hr k,aE hz⟩))
  ·exact h _ z hz
 ·exact .inr (.inl (List.eq_of_mem_replicate hz))
theorem El {np zf r} (hr:∀ x,r.getD x 0<5) (h:∀ q,∀ z∈zf q,CL np z):∀ z∈Cz np zf r,CL np z:=by
 intro z hz
 obtain ⟨l,hl,hz⟩:=List.mem_flatten.mp hz
 obtain ⟨k,_,rfl⟩:=iW hl
 exact Ek hr h k z hz
theorem vG:∀ (l:List Nat) (p:Nat) (b:Bool),(ch p b l).length<=l.length+1:=by
 intro l
 induction l with
 | nil=>
  intro p b
  cases b with
  | false=>exact Nat.zero_le _
  | true=>exact Nat.le_refl _
 | cons c l ih=>
  intro p b
  cases b with
  | true=>exact Nat.succ_le_succ (ih (p+1) false)
  | false=>
   show (if c=92 then _ else _:List (Nat×List Nat)).length<=_
   by_cases hc:c=92
   ·rw [if_pos hc];exact Nat.le_succ_of_le (ih (p+1) true)
   ·rw [if_neg hc];exact Nat.succ_le_succ (ih (p+1) false)
theorem qT:∀ (us:List Lt) (p:Nat),(jz p us).length=us.length:=by
 intro zv
 induction zv with
 | nil=>exact λU=>rfl
 | cons u us ih=>
  intro p
  simp [pi,jA,ih]
theorem zy {n:Nat} (h:n<1000000):j0 [.int n]=some ((List.range n).map λi=> .int (i:Nat)):=by
 show (if _ then _ else _)=_
 rw [if_pos ⟨by decide,by omega,.inl rfl⟩]
 unfold j4 j3
 rw [if_pos rfl]
 simp
theorem zu {a b:Nat} (ha:a<1000000) (hb:b<1000000):j0 [.int a,.int b]=some ((List.range' a (b - a)).map λi=> .int (i:Nat)):=by
 show (if _ then _ else _)=_
 rw [if_pos ⟨by omega,by omega,.inl rfl⟩]
 unfold j4 j3
 rw [if_pos rfl,List.range'_eq_map_range,jJ,show ((b:Int) - a).toNat=b - a by omega]
 congr 1
 exact List.map_congr_left λk U=>by simp [Function.comp]
theorem sH {xs d} (h:xs.getLast? =some d):a8 (.list xs) (.int (-1))=some d:=by
 have hx:xs≠[]:=λe=>by subst e;w_cond h
 have hl:=List.length_pos_iff.mpr hx
 show (kJ (-1) xs.length).bind _=_
 unfold kJ
 rw [if_neg (by omega),if_pos (by omega),Option.bind_some,show ((-1:Int) + xs.length).toNat=xs.length - 1 by omega,<-List.getLast?_eq_getElem?,h]
def GU (v:Lt):Prop:=(∃ c,c≠92/\v=[c])∨∃ c,v=[92,c]
theorem UU.gu:∀ us:List Lt,(∀ v∈us,GU v)->UU us.flatten us:=by
 intro zv
 induction zv with
 | nil=>exact λU=>UU.nil
 | cons v us ih=>
  intro h
  erw [List.flatten_cons]
  show UU _ ([v]++us)
  refine UU.app ?_ (ih λw hw=>h w (by simp [hw]))
  rcases h v (by simp) with ⟨c,hc,rfl⟩ | ⟨c,rfl⟩
  ·exact UU.one hc
  ·exact UU.esc c
theorem j8 {t us} (h:UU t us):mH t=us:=by
 have:=h.2 0 []
 rw [List.append_nil] at this
 unfold mH
 rw [this,List.map_append,mo]
 simp [yC,yD,yE,fT]
theorem ro {us:List Lt} (h:∀ v∈us,GU v):mH us.flatten=us:=j8 (UU.gu us h)
noncomputable def mD (us:List Lt):List Nat:=(List.range us.length).filter λk=>us.getD k []==[40]
noncomputable def dN (L:List Nat) (E:Nat->Nat):PV:=match L with
 | []=> .dS [] []
 | k::L=> .dI ((k::L).map λi=>((i:Nat):Int)) ((k::L).map λi=> .int (E i:Nat))
theorem zE {v k}:∀ {ks:List Int} {xs:List PV},ks.length=xs.length->k∉ks->gN ks xs k v=(ks++[k],xs++[v]):=by
 intro zv
 induction zv with
 | nil=>
  intro zw
  cases zw with
  | nil=>exact λU U=>rfl
  | cons _ _=>
   intro h _
   simp at h
 | cons k' ks ih=>
  intro zw
  cases zw with
  | nil=>
   intro h _
   simp at h
  | cons x xs=>
   intro h hk
   rw [gB,if_neg (by simp at hk;exact λe=>hk.1 e.symm),ih (by simpa using h) (by simp at hk;exact hk.2)]
   rfl
theorem Ep {E L} {k:Nat} (h:k∉L) (hl:L.length<600000):iZ (dN L E) (.int k) (.int (E k:Nat))=some (dN (L++[k]) E):=by
 cases L with
 | nil=>rfl
 | cons a L=>
  show (if _ then _ else _)=_
  rw [if_pos (by rw [fJ];unfold be;omega),zE (by simp) (by
   intro q
   obtain ⟨b,hb,e⟩:=iW q
   have:b=k:=by omega
   exact h (this ▸ hb))]
  show _=some (PV.dI ((a::(L++[k])).map _) ((a::(L++[k])).map _))
  simp
theorem Dm {E:Nat->Nat}:∀ {L:List Nat} {k:Nat},k∈L->eN (L.map λi=>((i:Nat):Int)) (L.map λi=>PV.int (E i:Nat)) (k:Int)=some (.int (E k:Nat)):=by
 intro zv
 induction zv with
 | nil=>
  intro k h
  simp at h
 | cons a L ih=>
  intro k h
  rw [List.map_cons,List.map_cons,ju]
  by_cases e:a=k
  ·subst e;rw [if_pos rfl]
  ·rw [if_neg (by omega)]
   exact ih (by rcases aX h with q | q;exact absurd q.symm e;exact q)
theorem yU {E:Nat->Nat}:∀ {L:List Nat} {k:Nat},k∉L->eN (L.map λi=>((i:Nat):Int)) (L.map λi=>PV.int (E i:Nat)) (k:Int)=none:=by
 intro zv
 induction zv with
 | nil=>exact λU=>rfl
 | cons a L ih=>
  intro k h
  rw [List.map_cons,List.map_cons,ju,if_neg (by intro e;exact h (by rw [List.mem_cons];left;omega))]
  exact ih λq=>h (List.mem_cons_of_mem _ q)
theorem tZ {E L} {k:Nat} (h:k∈L):a8 (dN L E) (.int k)=some (.int (E k:Nat)):=by
 cases L with
 | nil=>w_cond h
 | cons a L=>exact Dm h
theorem Bf {E L}:gI (dN L E)=some (L.map λk=> .int (k:Nat)):=by
 cases L with
 | nil=>rfl
 | cons a L=>show some (List.map PV.int (List.map _ _))=_;rw [jJ];rfl
theorem p0 {E L} {k:Nat}:iR (.int k) (dN L E)=some (!decide (k∈L)):=by
 cases L with
 | nil=>rfl
 | cons a L=>
  show some (!(eN _ _ _).isSome)=_
  by_cases h:k∈a::L
  ·rw [Dm (E:=E) h,decide_eq_true h];rfl
  ·rw [yU (E:=E) h,decide_eq_false h];rfl
noncomputable def kM (t ns u e i j w v:SV):List SV:=[t,ns,u,e,i,j,w,v,.u,.u,.u,.u,.u,.u]
theorem pv {us:List Lt} {k} (h:k<us.length):a8 (.list (us.map PV.str)) (.int k)=some (.str (us.getD k [])):=ef (by rw [gY,List.getElem?_eq_getElem h];simp [h])
theorem zN (H) {bare:Lt} {us:List Lt} (hus:bare=us.flatten) (hb:bare.length<500000) (hgu:∀ v∈us,GU v) (h34:∀ v∈us,34∉v) (a b):ei ((us.drop a).take b).flatten=some (.str ((us.drop a).take b).flatten)/\az H [.str ((us.drop a).take b).flatten]=some (.bool (cP 0 ((us.drop a).take b))):=by
 have hm:∀ v∈(us.drop a).take b,v∈us:=λv hv=>List.mem_of_mem_drop (List.mem_of_mem_take hv)
 have h1:us.flatten.length=(us.take a).flatten.length + (((us.drop a).take b).flatten.length + ((us.drop a).drop b).flatten.length):=by
  conv=>lhs;rw [<-List.take_append_drop a us,<-List.take_append_drop b (us.drop a)]
  rw [List.flatten_append,List.flatten_append,jt,jt]
 rw [<-hus] at h1
 refine ⟨dg (by unfold be;omega),?_⟩
 rw [lC H _ (by omega),Dv _ _ (by
  intro q
  obtain ⟨v,hv,hq⟩:=List.mem_flatten.mp q
  exact h34 v (hm v hv) hq),ro λv hv=>hgu v (hm v hv)]
theorem Fc (H) {text bare:Lt} {ns:PV} {us r} (hst:a9 H [.str text]=some (.str bare)) (hit:lS H [.str bare]=some ((jz 0 us).map bK)) (hul:us.length<=500002)
  (k:vN r ((Au H).1 (kM (.d (.str text)) (.d ns) (.d (.list (us.map .str))) .u .u .u .u .u))):vN r ((IF H).1 (kM (.d (.str text)) (.d ns) .u .u .u .u .u .u)):=by
 unfold kM
 wp_walk using IF
 rw [fO (jz 0 us) bK (λz=>[.u,.d (.int z.1),.d (.str z.2)]) (λz=> .str z.2)]
 rotate_left
 ·wp_walk using hst,hit
 ·rw [qT];unfold be;omega
 ·intro z hz;rfl
 ·intro w hw z hz;rfl
 ·intro z hz;rfl
 rw [show (jz 0 us).map (λz=>PV.str z.2)=us.map .str by erw [<-mo us 0,jJ,mo];rfl]
 wp_walk
 exact k
theorem Fd (H) {tx ns:PV} {us:List Lt} {r} {E:Nat->Nat} (hul:us.length<=500002)
  (k:vN r (uE (d7 (λst d=>some (st.set 4 (.d d))) (wt H).1 ((mD us).map λk=> .int (k:Nat)) (kM (.d tx) (.d ns) (.d (.list (us.map .str))) (.own (dN [] E)) .u .u .u .u)) (Av H).1)):
  vN r ((Au H).1 (kM (.d tx) (.d ns) (.d (.list (us.map .str))) .u .u .u .u .u)):=by
 have hra:j0 [.int (us.length:Int)]=some ((List.range us.length).map λi=> .int (i:Nat)):=zy (by omega)
 unfold kM
 wp_walk using Au
 wp_walk using F6
 rw [eI (List.range us.length) (λk=>PV.int (k:Nat)) (λk=>[.u,.d (.int (k:Nat)),.d (.list (us.map .str))]) (λk=>us.getD k []==[40]) (λk=> .int (k:Nat))]
 rotate_left
 ·wp_walk using fJ,hra
 ·rw [List.length_range];unfold be;omega
 ·intro z hz;rfl
 ·intro w hw z hz;rfl
 ·intro z hz
  have hpi:=pv (List.mem_range.mp hz)
  wp_walk using hpi
 ·intro z hz _;rfl
 wp_walk
 exact k
def wD (us:List Lt):Prop:=∀ a b:Nat,dh (.list (us.map PV.str)) (some (a:Int)) (some (b:Int)) none=some (.list (((us.drop a).take (b - a)).map .str))
def DS (H:Wf W) (us:List Lt):Prop:=∀ a b:Nat,ei ((us.drop a).take b).flatten=some (.str ((us.drop a).take b).flatten)/\az H [.str ((us.drop a).take b).flatten]=some (.bool (cP 0 ((us.drop a).take b)))
def F5 (us:List Lt) (i e:Nat):Prop:=i<=e/\e<us.length/\us.getD e []=[41]/\cP 0 ((us.drop i).take (e+1 - i))=true/\∀ j,i<=j->j<e->us.getD j []=[41]->cP 0 ((us.drop i).take (j+1 - i))=false
theorem B6 (H) {tx ns w v} {us:List Lt} {E:Nat->Nat} {i L} (hsl:wD us) (hsg:DS H us) (hc:F5 us i (E i)) (hiL:i∉L) (hL:L.length<600000) {j} (a1:i<=j) (a2:j<us.length):
  (rA H).1 (kM tx ns (.d (.list (us.map .str))) (.own (dN (if E i<j then L++[i] else L) E)) (.d (.int i)) (.d (.int j)) w v)=some (kM tx ns (.d (.list (us.map .str))) (.own (dN (if E i<j+1 then L++[i] else L) E)) (.d (.int i)) (.d (.int j)) w v,.next):=by
 obtain ⟨q1,q2,q3,q4,q5⟩:=hc
 have hs1:dh (.list (us.map PV.str)) (some (i:Int)) (some ((j:Int)+1)) none=some (.list (((us.drop i).take (j+1 - i)).map .str)):=hsl i (j+1)
 obtain ⟨g1,g2⟩:=hsg i (j+1 - i)
 have hn1:iR (.int (i:Nat)) (dN L E)=some true:=by rw [p0,decide_eq_false hiL];rfl
 unfold kM
 by_cases h1:E i<j
 ·have hn2:iR (.int (i:Nat)) (dN (L++[i]) E)=some false:=by rw [p0,decide_eq_true (by simp)];rfl
  rw [if_pos h1,if_pos (by omega)]
  wp_walk using rA,hn2
 ·rw [if_neg h1]
  by_cases h2:E i=j
  ·subst h2
   have hb:(us.getD (E i) []==[41])=true:=by rw [q3];rfl
   have htt:(true==true)=true:=rfl
   rw [if_pos (by omega)]
   wp_walk using rA,hn1,pv q2,hb,hs1,g1,g2,q4,jn,htt,Ep hiL hL
  ·rw [if_neg (by omega)]
   by_cases hb:us.getD j []=[41]
   ·have hb':(us.getD j []==[41])=true:=by rw [hb];rfl
    have q6:=q5 j a1 (by omega) hb
    have hft:(false==true)=false:=rfl
    wp_walk using rA,hn1,pv a2,hb',hs1,g1,g2,q6,jn,hft
   ·have hb':(us.getD j []==[41])=false:=by simpa using hb
    wp_walk using rA,hn1,pv a2,hb'
theorem Fh (H) {tx ns w v} {us:List Lt} {E:Nat->Nat} {i L} (hsl:wD us) (hsg:DS H us) (hc:F5 us i (E i)) (hiL:i∉L) (hL:L.length<600000) (n):
  ∀ (j:Nat) (v5:SV),n=us.length - j->i<=j->j<=us.length->∃ v5',d7 (λst d=>some (st.set 5 (.d d))) (rA H).1 ((List.range' j n).map λq=> .int (q:Nat)) (kM tx ns (.d (.list (us.map .str))) (.own (dN (if E i<j then L++[i] else L) E)) (.d (.int i)) v5 w v)=
   some (kM tx ns (.d (.list (us.map .str))) (.own (dN (L++[i]) E)) (.d (.int i)) v5' w v,.next):=by
 induction n with
 | zero=>
  intro j v5 hn a1 a2
  have:=hc.2.1
  exact ⟨v5,by rw [if_pos (by omega)];rfl⟩
 | succ n ih=>
  intro j v5 hn a1 a2
  obtain ⟨v5',e⟩:=ih (j+1) (.d (.int (j:Nat))) (by omega) (by omega) (by omega)
  refine ⟨v5',?_⟩
  rw [List.range'_succ,List.map_cons,cR rfl (B6 H hsl hsg hc hiL hL a1 (by omega))]
  exact e
theorem Fi (H) {tx:SV} {ns:SV} {w v} {us:List Lt} {E:Nat->Nat} {r tl} (hul:us.length<=500002) (hsl:wD us) (hsg:DS H us) (hE:∀ i∈mD us,F5 us i (E i)) (k:∀ v4 v5,vN r (tl (kM tx ns (.d (.list (us.map .str))) (.own (dN (mD us) E)) v4 v5 w v))) (rest:List Nat):
  ∀ (L:List Nat) (v4 v5:SV),L++rest=mD us->vN r (uE (d7 (λst d=>some (st.set 4 (.d d))) (wt H).1 (rest.map λq=> .int (q:Nat)) (kM tx ns (.d (.list (us.map .str))) (.own (dN L E)) v4 v5 w v)) tl):=by
 induction rest with
 | nil=>intro L v4 v5 h;rw [List.append_nil] at h;subst h;exact k v4 v5
 | cons i rest ih=>
  intro L v4 v5 hL
  have hi:i∈mD us:=by rw [<-hL];exact lR _ (.head _)
  have hiL:i∉L:=by
   have h:(mD us).Nodup:=(List.nodup_range (n:=us.length)).filter _
   rw [<-hL,List.nodup_append] at h
   exact λq=>h.2.2 i q i (.head _) rfl
  have hLl:L.length<600000:=by
   have h1:=congrArg List.length hL
   have h2:=List.length_filter_le (λk=>us.getD k []==[40]) (List.range us.length)
   rw [jt] at h1
   rw [List.length_range] at h2
   have h3:(mD us).length<=us.length:=h2
   omega
  have hc:=hE i hi
  have q1:=hc.1
  have q2:=hc.2.1
  have hr2:j0 [.int (i:Nat),.int (us.length:Nat)]=some ((List.range' i (us.length - i)).map λi=> .int (i:Nat)):=zu (by omega) (by omega)
  obtain ⟨v5',e2⟩:=Fh H (tx:=tx) (ns:=ns) (w:=w) (v:=v) hsl hsg hc hiL hLl (us.length - i) i v5 rfl (Nat.le_refl _) (by omega)
  rw [if_neg (by omega)] at e2
  have hbody:(wt H).1 (kM tx ns (.d (.list (us.map .str))) (.own (dN L E)) (.d (.int i)) v5 w v)=some (kM tx ns (.d (.list (us.map .str))) (.own (dN (L++[i]) E)) (.d (.int i)) v5' w v,.next):=by
   unfold kM at e2 ⊢
   wp_walk using wt,fJ,hr2
   exact congrArg (λo=>uE o λst=>some (st,.next)) e2
  rw [List.map_cons,cR rfl hbody]
  exact ih _ _ _ (by rw [<-hL,kr];rfl)
theorem xB:∀ (us:List Lt) (n:Nat),en n (us.map PV.str)=(List.range us.length).map λk=>PV.tuple [.int ((n:Int) + (k:Nat)),.str (us.getD k [])]:=by
 intro us
 induction us with
 | nil=>exact λn=>rfl
 | cons u us ih=>
  intro n
  rw [List.length_cons,List.range_succ_eq_map,List.map_cons,List.map_cons,jJ,kX]
  have:=ih (n+1)
  rw [show ((n+1:Nat):Int)=(n:Int)+1 from rfl] at this
  rw [this]
  refine congr (congrArg List.cons ?_) (List.map_congr_left λk U=>?_)
  ·simp
  ·simp [Function.comp];omega
noncomputable def wj (u:Lt):Bool:=u==[40] || u==[41]
noncomputable def ji (us:List Lt) (E:Nat->Nat) (k:Nat):List Nat:=(mD us).filter λi=>decide (i<k)&&decide (k<E i)
noncomputable def iF (lb:Lt->Bool) (us:List Lt):List Nat:=(List.range us.length).filter λk=>lb (us.getD k [])
noncomputable def Dj (lb:Lt->Bool) (us:List Lt) (E:Nat->Nat) (k:Nat):List Lt:=((us.drop ((ji us E k).getLastD 0)).take (E ((ji us E k).getLastD 0) - (ji us E k).getLastD 0)).filter lb
noncomputable def wS (us:List Lt) (E:Nat->Nat) (k:Nat):PV:= .tuple [.str (us.getD k []),.list ((ji us E k).map λi=> .int (i:Nat))]
theorem Fe (H) {tx ns:PV} {us:List Lt} {E:Nat->Nat} {lb:Lt->Bool} {v4 v5 r} (hul:us.length<=500002) (hlb:∀ u∈us,w8 (.str u) ns=some (lb u))
  (k:vN r ((Aw H).1 (kM (.d tx) (.d ns) (.d (.list (us.map .str))) (.d (dN (mD us) E)) v4 v5 (.own (.list ((iF lb us).map (wS us E)))) .u))):
  vN r ((Av H).1 (kM (.d tx) (.d ns) (.d (.list (us.map .str))) (.own (dN (mD us) E)) v4 v5 .u .u)):=by
 have hen:uK [.list (us.map PV.str)]=some ((List.range us.length).map λk=>PV.tuple [.int (k:Nat),.str (us.getD k [])]):=by
  rw [iY]
  have:=xB us 0
  refine congrArg some (this.trans (List.map_congr_left λk U=>?_))
  simp
 have hmem:∀ z∈List.range us.length,us.getD z []∈us:=λz hz=>by
  rw [List.getD_eq_getElem?_getD,List.getElem?_eq_getElem (List.mem_range.mp hz)];exact List.getElem_mem _
 have hit:gI (dN (mD us) E)=some ((mD us).map λk=>PV.int (k:Nat)):=Bf
 unfold kM
 wp_walk using Av
 rw [eI (List.range us.length) (λk=>PV.tuple [.int (k:Nat),.str (us.getD k [])]) (λk=>[.u,.d (.int (k:Nat)),.d (.str (us.getD k [])),.d (dN (mD us) E),.d ns]) (λk=>lb (us.getD k [])) (wS us E)]
 rotate_left
 ·wp_walk using hen
 ·rw [List.length_range];unfold be;omega
 ·intro z hz;rfl
 ·intro w hw z hz;rfl
 ·intro z hz
  wp_walk using hlb _ (hmem z hz)
 ·intro z hz _
  wp_walk
  rw [eI (mD us) (λk=>PV.int (k:Nat)) (λi=>[.u,.d (.int (i:Nat)),.d (dN (mD us) E),.d (.int (z:Nat))]) (λi=>decide (i<z)&&decide (z<E i)) (λk=> .int (k:Nat))]
  rotate_left
  ·wp_walk using hit
  ·have:=List.length_filter_le (λk=>us.getD k []==[40]) (List.range us.length)
   rw [List.length_range] at this
   have h3:(mD us).length<=us.length:=this
   unfold be;omega
  ·intro i hi;rfl
  ·intro w hw i hi;rfl
  ·intro i hi
   have i1:=tZ (E:=E) hi
   have b1:decide ((i:Int)<(z:Int))=decide (i<z):=by rw [decide_eq_decide];omega
   have b2:decide ((z:Int)<(E i:Int))=decide (z<E i):=by rw [decide_eq_decide];omega
   wp_walk using i1,b1,b2
   cases decide (i<z) with
   | true=>rfl
   | false=>rfl
  ·intro i hi _;rfl
  wp_walk
  rfl
 wp_walk
 exact k
theorem Ff (H) {tx ns:PV} {us:List Lt} {E:Nat->Nat} {lb:Lt->Bool} {v4 v5 r} (hul:us.length<=500002) (hsl:wD us) (hlb:∀ u∈us,w8 (.str u) ns=some (lb u)) (hnd:((iF lb us).map λk=>us.getD k []).Nodup) (hne:∀ k∈iF lb us,ji us E k≠[])
  (k:vN r ((Ax H).1 (kM (.d tx) (.d ns) (.d (.list (us.map .str))) (.d (dN (mD us) E)) v4 v5 (.d (.list ((iF lb us).map (wS us E)))) (.own (.dS ((iF lb us).map λk=>us.getD k []) ((iF lb us).map λk=> .list ((Dj lb us E k).map .str))))))):
  vN r ((Aw H).1 (kM (.d tx) (.d ns) (.d (.list (us.map .str))) (.d (dN (mD us) E)) v4 v5 (.own (.list ((iF lb us).map (wS us E)))) .u)):=by
 unfold kM
 wp_walk using Aw
 rw [pW (iF lb us) (wS us E) (λk=>[.u,.d (.str (us.getD k [])),.d (.list ((ji us E k).map λi=> .int (i:Nat))),.d (dN (mD us) E),.d ns,.d (.list (us.map .str))]) (λU=>true) (λk=>us.getD k []) (λk=> .list ((Dj lb us E k).map .str))]
 rotate_left
 ·wp_walk
 ·have:=List.length_filter_le (λk=>lb (us.getD k [])) (List.range us.length)
  rw [List.length_range] at this
  have h3:(iF lb us).length<=us.length:=this
  unfold be;omega
 ·rw [dt];exact hnd
 ·intro z hz;rfl
 ·intro w hw z hz;rfl
 ·intro z hz
  have h:FU (.list ((ji us E z).map λi=>PV.int (i:Nat))) (.list [])=some true:=by
   have:=hne z hz
   cases h:ji us E z with
   | nil=>exact absurd h this
   | cons a l=>rfl
  wp_walk using h
 ·intro z hz _;rfl
 ·intro z hz _
  have hl:=hne z hz
  generalize ha:(ji us E z).getLastD 0=a
  have hmem:a∈mD us:=by
   have:a∈ji us E z:=by
    rw [<-ha,List.getLastD_eq_getLast?,List.getLast?_eq_some_getLast hl];exact List.getLast_mem hl
   exact (List.mem_filter.mp this).1
  have h1:a8 (.list ((ji us E z).map λi=>PV.int (i:Nat))) (.int (-1))=some (.int (a:Nat)):=sH (by
   rw [List.getLast?_map,<-ha,List.getLastD_eq_getLast?,List.getLast?_eq_some_getLast hl];rfl)
  have h2:=tZ (E:=E) hmem
  have h3:=hsl a (E a)
  rw [eg] at h3
  have hi:Dj lb us E z=((us.drop a).take (E a - a)).filter lb:=by rw [<-ha];rfl
  rw [hi]
  wp_walk
  rw [eI ((us.drop a).take (E a - a)) PV.str (λu=>[.u,.d (.str u),.d ns]) lb PV.str]
  rotate_left
  ·wp_walk using h1,h2,h3
  ·rw [List.length_take,List.length_drop];unfold be;omega
  ·intro i hi;rfl
  ·intro w hw i hi;rfl
  ·intro u hu
   have:=hlb u (List.mem_of_mem_drop (List.mem_of_mem_take hu))
   wp_walk using this
  ·intro i hi _;rfl
  wp_walk
 rw [dt]
 wp_walk
 exact k
theorem Fg (H) {tx ns:PV} {us:List Lt} {d ar wi:PV} {v4 v5} (hul:us.length<=500002) (hfl:us.flatten.length<500000):
  vN (.tuple [.str (us.filter wj).flatten,wi]) ((Ax H).1 (kM (.d tx) (.d ns) (.d (.list (us.map .str))) (.d d) v4 v5 (.d ar) (.own wi))):=by
 have hg:ei (us.filter wj).flatten=some (.str (us.filter wj).flatten):=dg (by
  have:∀ l:List Lt,(l.filter wj).flatten.length<=l.flatten.length:=by
   intro l
   induction l with
   | nil=>exact Nat.le_refl _
   | cons u l ih=>
    by_cases h:wj u=true
    ·rw [List.filter_cons_of_pos h,List.flatten_cons,List.flatten_cons,jt,jt];omega
    ·rw [List.filter_cons_of_neg h,List.flatten_cons,jt];omega
  have:=this us
  unfold be;omega)
 unfold kM
 wp_walk using Ax
 rw [eI us PV.str (λu=>[.u,.d (.str u)]) wj PV.str]
 rotate_left
 ·wp_walk
 ·unfold be;omega
 ·intro i hi;rfl
 ·intro w hw i hi;rfl
 ·intro u hu
  wp_walk
  unfold wj
  cases u==[40] with
  | true=>rfl
  | false=>
   cases u==[41] with
   | true=>rfl
   | false=>rfl
 ·intro i hi _;rfl
 wp_walk using hg
 rfl
theorem B5 (H) {text bare:Lt} {ns:PV} {us:List Lt} {E:Nat->Nat} {lb:Lt->Bool} (ht:text.length<500000) (hb:bare.length<500000) (hcut:sQ none false text=bare) (hus:UU bare us) (hgu:∀ v∈us,GU v) (h34:∀ v∈us,34∉v) (hE:∀ i∈mD us,F5 us i (E i)) (hlb:∀ u∈us,w8 (.str u) ns=some (lb u)) (hnd:((iF lb us).map λk=>us.getD k []).Nodup) (hne:∀ k∈iF lb us,ji us E k≠[]):
  eK H [.str text,ns]=some (.tuple [.str (us.filter wj).flatten,.dS ((iF lb us).map λk=>us.getD k []) ((iF lb us).map λk=> .list ((Dj lb us E k).map .str))]):=by
 have hst:=rg H text (by omega)
 rw [hcut] at hst
 have htold:ch 0 false bare=jz 0 us:=by
  have:=hus.2 0 []
  rw [List.append_nil] at this
  rw [this];exact List.append_nil _
 have hit:=jV H bare
 rw [htold] at hit
 have hul:us.length<=500002:=by
  have:=vG bare 0 false
  rw [htold,qT] at this
  omega
 have hsl:wD us:=by
  intro a b
  rw [eg,iA,<-List.map_drop,<-List.map_take]
  exact dC (by rw [fJ,List.length_take,List.length_drop];unfold be;omega)
 refine Hf (st:=kM (.d (.str text)) (.d ns) .u .u .u .u .u .u) rfl ?_
 refine Fc H hst hit hul (Fd H hul (Fi H hul hsl (zN H hus.1 hb hgu h34) hE (λv4 v5=>?_) (mD us) [] .u .u rfl))
 exact Fe H hul hlb (Ff H hul hsl hlb hnd hne (Fg H hul (by rw [<-hus.1];exact hb)))
noncomputable def sk (r:List Nat):List Nat:=([0,1,2,3,4].map λk=>List.replicate (ry r k) 0++(2 + r.getD k 0)::List.replicate (wk r k) 1).flatten
noncomputable def IS:List Nat->Nat->Nat->Nat
 | [],_,j=>j
 | t::ts,d,j=>cond (Nat.beq t 0) (IS ts (d+1) (j+1)) (cond (Nat.beq t 1) (cond (Nat.ble d 1) j (IS ts (d - 1) (j+1))) (IS ts d (j+1)))
noncomputable def vz (T:List Nat) (i:Nat):Nat:=IS (T.drop i) 0 i
noncomputable def Ao (t:Nat):Bool:=Nat.beq t 0
noncomputable def uv (t:Nat):Bool:=Nat.ble 2 t&&Nat.blt t 7
noncomputable def kI (P:Nat->Bool) (T:List Nat):List Nat:=(List.range T.length).filter λk=>P (T.getD k 9)
noncomputable def lw (T:List Nat) (k:Nat):List Nat:=(kI Ao T).filter λi=>Nat.blt i k&&Nat.blt k (vz T i)
noncomputable def IW (T:List Nat) (k:Nat):List Nat:=((T.drop ((lw T k).getLastD 0)).take (vz T ((lw T k).getLastD 0) - (lw T k).getLastD 0)).filter uv
noncomputable def cT:List Nat->Nat->Bool
 | [],k=>Nat.beq k 0
 | t::ts,k=>cond (Nat.beq t 0) (cT ts (k+1)) (cond (Nat.beq t 1) (match k with | 0=>false | k+1=>cT ts k) (cT ts k))
theorem AV {t ts k}:cT (t::ts) k=cond (Nat.beq t 0) (cT ts (k+1)) (cond (Nat.beq t 1) (match k with | 0=>false | k+1=>cT ts k) (cT ts k)):=by cases k <;> rfl
def wq (T:List Nat) (i e:Nat):Prop:=i<=e/\e<T.length/\T.getD e 9=1/\cT ((T.drop i).take (e+1 - i)) 0=true/\∀ j,i<=j->j<e->T.getD j 9=1->cT ((T.drop i).take (j+1 - i)) 0=false
noncomputable def Em (T:List Nat) (i e:Nat):Bool:=Nat.ble i e&&(Nat.blt e T.length&&(Nat.beq (T.getD e 9) 1&&(cT ((T.drop i).take (e+1 - i)) 0&&(List.range e).all λj=>Nat.blt j i || (!Nat.beq (T.getD j 9) 1 || !cT ((T.drop i).take (j+1 - i)) 0))))
theorem A6 {T i e} (h:Em T i e=true):wq T i e:=by
 unfold Em at h
 simp only [Bool.and_eq_true,List.all_eq_true] at h
 obtain ⟨h1,h2,h3,h4,h5⟩:=h
 refine ⟨Nat.le_of_ble_eq_true h1,Nat.blt_eq.mp h2,Nat.eq_of_beq_eq_true h3,h4,λj a b c=>?_⟩
 have:=h5 j (List.mem_range.mpr b)
 rw [Bool.or_eq_true,Bool.or_eq_true] at this
 rcases this with q | q | q
 ·have:=Nat.blt_eq.mp q;omega
 ·rw [c] at q;w_cond q
 ·simpa using q
noncomputable def mX (r:List Nat) (i:Nat):List Nat:=(r.drop (fW r i).1).take ((fW r i).2+1 - (fW r i).1)
noncomputable def eJ (r:List Nat) (x:Nat):List Nat:=mX r (r.idxOf x)
noncomputable def CX (r:List Nat):List Nat:=([0,1,2,3,4].map λk=>List.replicate (ry r k) 0++List.replicate (wk r k) 1).flatten
noncomputable def Bn:List Nat->List Nat->Bool
 | [],[]=>true
 | a::l,b::m=>Nat.beq a b&&Bn l m
 | _,_=>false
theorem lO:∀ {l m:List Nat},Bn l m=true->l=m:=by
 intro l
 induction l with
 | nil=>
  intro m h
  cases m with
  | nil=>rfl
  | cons b m=>w_cond h
 | cons a l ih=>
  intro m h
  cases m with
  | nil=>w_cond h
  | cons b m=>
   have h:(Nat.beq a b&&Bn l m)=true:=h
   rw [Bool.and_eq_true] at h
   rw [Nat.eq_of_beq_eq_true h.1,ih h.2]
noncomputable def Bo:List (List Nat)->List (List Nat)->Bool
 | [],[]=>true
 | a::l,b::m=>Bn a b&&Bo l m
 | _,_=>false
theorem Bp:∀ {l m:List (List Nat)},Bo l m=true->l=m:=by
 intro l
 induction l with
 | nil=>
  intro m h
  cases m with
  | nil=>rfl
  | cons b m=>w_cond h
 | cons a l ih=>
  intro m h
  cases m with
  | nil=>w_cond h
  | cons b m=>
   have h:(Bn a b&&Bo l m)=true:=h
   rw [Bool.and_eq_true] at h
   rw [lO h.1,ih h.2]
noncomputable def GW (r:List Nat):Bool:=
 ((sk r).all (Nat.blt · 7)&&cT (sk r) 0)&&((kI Ao (sk r)).all (λi=>Em (sk r) i (vz (sk r) i))&&
 (Bn ((sk r).filter (λt=>Nat.blt t 2)) (CX r)&&
 (Bn ((kI uv (sk r)).map ((sk r).getD · 9)) (r.map (2 + ·))&&
 ((kI uv (sk r)).all (λk=>!(lw (sk r) k).isEmpty)&&
 Bo ((kI uv (sk r)).map (IW (sk r))) (r.map λx=>(eJ r x).map (2 + ·))))))
theorem A0:an.all GW=true:=by kernel_rfl
noncomputable def gw (nu:Nat->List Nat):List Nat->List Nat
 | []=>[]
 | t::S=>t::(nu t++gw nu S)
def jd (nu:Nat->List Nat):Prop:=nu 0=[]/\nu 1=[]/\∀ t,∀ y∈nu t,y=7
noncomputable def fj (nu:Nat->List Nat) (S:List Nat) (p:Nat):Nat:=(gw nu (S.take p)).length
section
variable {nu:Nat->List Nat}
theorem ko {t S}:gw nu (t::S)=t::(nu t++gw nu S):=rfl
theorem kZ (a b):gw nu (a++b)=gw nu a++gw nu b:=by
 induction a with
 | nil=>rfl
 | cons t a ih=>rw [List.cons_append,ko,ko,ih,List.cons_append,kr]
theorem lW {P t S}:kI P (t::S)=(if P t=true then [0] else [])++(kI P S).map (·+1):=by
 unfold kI
 rw [List.length_cons,List.range_succ_eq_map,List.filter_cons,List.filter_map]
 by_cases h:P t=true
 ·rw [if_pos h,if_pos (show P (List.getD (t::S) 0 9)=true from h)];rfl
 ·rw [if_neg h,if_neg (show ¬ P (List.getD (t::S) 0 9)=true from h)];rfl
theorem yg {P S} (l:List Nat) (h:∀ y∈l,P y=false):kI P (l++S)=(kI P S).map (· + l.length):=by
 induction l with
 | nil=>exact (List.map_id _).symm
 | cons y l ih=>
  rw [List.cons_append,lW,if_neg (by rw [h y (.head _)];decide),ih λz hz=>h z (.tail _ hz),jJ,List.nil_append]
  exact List.map_congr_left λk U=>rfl
theorem Ib {t S p}:fj nu (t::S) (p+1)=fj nu S p + (nu t).length+1:=by
 unfold fj
 rw [List.take_succ_cons,ko,List.length_cons,jt]
 omega
theorem oS (hn:jd nu) {P:Nat->Bool} (h7:P 7=false) (S):kI P (gw nu S)=(kI P S).map (fj nu S):=by
 induction S with
 | nil=>rfl
 | cons t S ih=>
  rw [ko,lW,lW,yg _ λy hy=>by rw [hn.2.2 t y hy];exact h7,ih,List.map_append,jJ,jJ,jJ]
  refine congr (congrArg _ ?_) (List.map_congr_left λk U=>?_)
  ·by_cases h:P t=true
   ·rw [if_pos h];rfl
   ·rw [if_neg h];rfl
  ·exact Ib.symm
theorem un (S p):gw nu S=gw nu (S.take p)++gw nu (S.drop p):=by
 rw [<-kZ,List.take_append_drop]
theorem p9 (S p):(gw nu S).drop (fj nu S p)=gw nu (S.drop p):=by
 rw [un S p]
 exact List.drop_left
theorem rl (S p):(gw nu S).take (fj nu S p)=gw nu (S.take p):=by
 rw [un S p]
 exact List.take_left
theorem o9 (S p m):fj nu S (p + m)=fj nu S p + fj nu (S.drop p) m:=by
 unfold fj
 rw [List.take_add,kZ,jt]
theorem oJ {S p p'} (h:p<=p'):((gw nu S).drop (fj nu S p)).take (fj nu S p' - fj nu S p)=gw nu ((S.drop p).take (p' - p)):=by
 obtain ⟨m,rfl⟩:=Nat.le.dest h
 rw [p9,o9,Nat.add_sub_cancel_left,Nat.add_sub_cancel_left,rl]
theorem uP {S p} (h:p<S.length):fj nu S (p+1)=fj nu S p + ((nu (S.getD p 9)).length+1):=by
 rw [o9]
 refine congrArg (fj nu S p + ·) ?_
 unfold fj
 rw [List.drop_eq_getElem_cons h]
 show (S[p]::(nu S[p]++[])).length=_
 rw [List.length_cons,List.append_nil,List.getD_eq_getElem?_getD,List.getElem?_eq_getElem h];rfl
theorem sO {S p p'} (h:p<=p'):fj nu S p<=fj nu S p':=by
 obtain ⟨m,rfl⟩:=Nat.le.dest h
 rw [o9]
 exact Nat.le_add_right _ _
theorem sP {S p p'} (h:p<p') (hp:p<S.length):fj nu S p<fj nu S p':=by
 have h1:=sO (nu:=nu) (S:=S) (Nat.succ_le_of_lt h)
 have h2:=uP (nu:=nu) hp
 have h1:fj nu S (p+1)<=fj nu S p':=h1
 omega
theorem pd {S p p'} (hp:p<S.length):fj nu S p<fj nu S p'↔p<p':=
 ⟨λh=>Nat.lt_of_not_le λq=>absurd (sO (nu:=nu) (S:=S) q) (Nat.not_le_of_lt h),λh=>sP h hp⟩
theorem pf {S p} (hp:p<S.length):fj nu S p<(gw nu S).length:=by
 have:=sP (nu:=nu) (p':=S.length) hp hp
 unfold fj at this ⊢
 rw [List.take_length] at this
 exact this
theorem qj {S p} (h:p<S.length):(gw nu S).getD (fj nu S p) 9=S.getD p 9:=by
 have e:=congrArg List.head? (p9 (nu:=nu) S p)
 rw [List.head?_drop,List.drop_eq_getElem_cons h] at e
 rw [List.getD_eq_getElem?_getD,List.getD_eq_getElem?_getD,e,List.getElem?_eq_getElem h];rfl
theorem iU (hn:jd nu) {P:Nat->Bool} (h7:P 7=false) (S):(gw nu S).filter P=S.filter P:=by
 induction S with
 | nil=>rfl
 | cons t S ih=>
  rw [ko,List.filter_cons,List.filter_cons,List.filter_append,ih,List.filter_eq_nil_iff.mpr λy hy=>by rw [hn.2.2 t y hy,h7];decide]
  rfl
theorem AW {S} (l:List Nat):(∀ y∈l,y=7)->∀ k,cT (l++S) k=cT S k:=by
 induction l with
 | nil=>exact λU k=>rfl
 | cons y l ih=>
  intro h k
  have:=h y (.head _)
  subst this
  rw [List.cons_append,AV]
  exact ih (λz hz=>h z (.tail _ hz)) k
theorem rP (hn:jd nu) (S:List Nat):∀ k,cT (gw nu S) k=cT S k:=by
 induction S with
 | nil=>exact λU=>rfl
 | cons t S ih=>
  intro k
  have e k:cT (nu t++gw nu S) k=cT S k:=(AW _ (hn.2.2 t) k).trans (ih k)
  rw [ko,AV,AV,e,e]
  cases k with
  | zero=>rfl
  | succ k=>simp only [e]
theorem e9 {P S k}:k∈kI P S↔k<S.length/\P (S.getD k 9)=true:=by
 unfold kI
 rw [List.mem_filter,List.mem_range]
theorem A7 (hn:jd nu) {S p e} (h:wq S p e):wq (gw nu S) (fj nu S p) (fj nu S e):=by
 obtain ⟨h1,h2,h3,h4,h5⟩:=h
 have one {q} (hq:q<S.length) (h:S.getD q 9=1):fj nu S (q+1)=fj nu S q+1:=by
  rw [uP hq,h,hn.2.1];rfl
 refine ⟨sO h1,pf h2,(qj h2).trans h3,?_,λj a b c=>?_⟩
 ·rw [<-one h2 h3,oJ (by omega),rP hn,h4]
 ·have hj:j∈kI (λt=>Nat.beq t 1) (gw nu S):=e9.mpr ⟨Nat.lt_trans b (pf h2),by rw [c];rfl⟩
  rw [oS hn rfl] at hj
  obtain ⟨q,hq,rfl⟩:=iW hj
  obtain ⟨q1,q2⟩:=e9.mp hq
  have q3:=Nat.eq_of_beq_eq_true q2
  have q4:p<=q:=Nat.le_of_not_lt λz=>by have:=sP (nu:=nu) z q1;omega
  rw [<-one q1 q3,oJ (by omega),rP hn]
  exact h5 q q4 ((pd q1).mp b) q3
end
noncomputable def ER (np:List Nat) (zf:Nat->List (Lt×Nat)) (t:Nat):List Nat:=if Nat.blt t 2=true then [] else (zf (np.getD (t - 2) 0)).map (·.2)
theorem uo {nu:Nat->List Nat} {t} (h:nu t=[]) (n):gw nu (List.replicate n t)=List.replicate n t:=by
 induction n with
 | zero=>rfl
 | succ n ih=>rw [List.replicate_succ,ko,ih,h];rfl
theorem Cv {np zf r} (k):(sW np zf r k).map (·.2)=gw (ER np zf) (List.replicate (ry r k) 0++(2 + r.getD k 0)::List.replicate (wk r k) 1):=by
 have e:ER np zf (2 + r.getD k 0)=(zf (np.getD (r.getD k 0) 0)).map (·.2):=by
  unfold ER
  rw [if_neg (λh=>by have:=Nat.blt_eq.mp h;omega),Nat.add_sub_cancel_left]
 unfold sW
 rw [kZ,ko,uo rfl,uo rfl,e,List.map_append,List.map_append,List.map_append,List.map_replicate,List.map_replicate,kr,kr]
 rfl
theorem yo {nu:Nat->List Nat} (ls:List (List Nat)):gw nu ls.flatten=(ls.map (gw nu)).flatten:=by
 induction ls with
 | nil=>rfl
 | cons l ls ih=>rw [List.flatten_cons,kZ,ih,List.map_cons,List.flatten_cons]
theorem Cw {np zf r}:(Cz np zf r).map (·.2)=gw (ER np zf) (sk r):=by
 unfold Cz sk
 rw [List.map_flatten,yo,jJ,jJ]
 congr 1
 exact List.map_congr_left λk U=>Cv k
theorem HW {np zf} (h:∀ q,∃ n,n<2/\(zf q).map (·.2)=List.replicate n 7):jd (ER np zf):=by
 refine ⟨rfl,rfl,λt y hy=>?_⟩
 unfold ER at hy
 by_cases ht:Nat.blt t 2=true
 ·rw [if_pos ht] at hy;w_cond hy
 ·rw [if_neg ht] at hy
  obtain ⟨n,_,e⟩:=h (np.getD (t - 2) 0)
  rw [e] at hy
  exact List.eq_of_mem_replicate hy
noncomputable def lb:Lt->Bool
 | [c]=>Nat.ble 97 c
 | _=>false
structure Kn (np:List Nat) (z:Lt×Nat):Prop where
 o:(z.1==[40])=Ao z.2
 c:(z.1==[41])=Nat.beq z.2 1
 l:lb z.1=uv z.2
 i:w8 (.str z.1) (.list (np.map a7))=some (lb z.1)
 e:uv z.2=true->z.1=aZ np (z.2 - 2)
 b:Nat.blt z.2 2=true->z.1=[40 + z.2]
 g:GU z.1
 q:34∉z.1
theorem oz {a b:Nat} (h:a≠b):Nat.beq a b=false:=by
 cases e:Nat.beq a b with
 | false=>rfl
 | true=>exact absurd (Nat.eq_of_beq_eq_true e) h
theorem wQ {u:Lt} (l:List Nat):ol (.str u) (l.map a7)=some (l.any λp=>[97 + p]==u):=by
 induction l with
 | nil=>rfl
 | cons p l ih=>
  rw [List.map_cons,AQ,ih]
  rfl
theorem Lp {np z} (hn:np∈an) (h:CL np z):Kn np z:=by
 have hi (u:Lt) (b:Bool) (h:(np.any λp=>[97 + p]==u)=b):w8 (.str u) (.list (np.map a7))=some b:=by
  rw [gO,wQ,h]
 have no (u:Lt) (h:∀ p,[97 + p]≠u):(np.any λp=>[97 + p]==u)=false:=by
  rw [List.any_eq_false]
  intro p _
  have:=h p
  simpa using this
 rcases h with rfl | rfl | ⟨x,hx,rfl⟩ | ⟨c,hc,rfl⟩
 ·exact ⟨rfl,rfl,rfl,hi _ _ (no _ λp e=>by have:=(List.cons.inj e).1;omega),λh=>by w_cond h,λU=>rfl,.inl ⟨40,by decide,rfl⟩,by decide⟩
 ·exact ⟨rfl,rfl,rfl,hi _ _ (no _ λp e=>by have:=(List.cons.inj e).1;omega),λh=>by w_cond h,λU=>rfl,.inl ⟨41,by decide,rfl⟩,by decide⟩
 ·have hm:np.getD x 0∈np:=by
   have:x<np.length:=by rw [fE hn];exact hx
   rw [List.getD_eq_getElem?_getD,List.getElem?_eq_getElem this];exact List.getElem_mem _
  have h5:=g8 hn x
  generalize ha:np.getD x 0=a at hm h5
  have hl:aZ np x=[97 + a]:=by unfold aZ;rw [ha]
  have h1:lb [97 + a]=true:=Nat.ble_eq_true_of_le (Nat.le_add_right _ _)
  rw [hl]
  refine ⟨?_,?_,?_,?_,λU=>?_,λh=>?_,.inl ⟨97 + a,by omega,rfl⟩,?_⟩
  ·have:Ao (2 + x)=false:=by
    unfold Ao
    exact oz (by omega)
   rw [this]
   simp;omega
  ·have:Nat.beq (2 + x) 1=false:=oz (by omega)
   rw [this]
   simp;omega
  ·rw [h1]
   unfold uv
   rw [Nat.ble_eq_true_of_le (by omega),Nat.blt_eq.mpr (by omega)];rfl
  ·rw [hi _ true (List.any_eq_true.mpr ⟨a,hm,by simp⟩),h1]
  ·rw [Nat.add_sub_cancel_left,hl]
  ·have:=Nat.blt_eq.mp h;omega
  ·simp;omega
 ·refine ⟨?_,rfl,rfl,hi _ _ (no _ λp e=>by have:=(List.cons.inj e).2;w_cond this),λh=>by w_cond h,λh=>by w_cond h,.inr ⟨c,rfl⟩,?_⟩
  ·simp;rfl
  ·simp;exact λe=>hc e.symm
theorem CY {np} {zs:List (Lt×Nat)}:(∀ z∈zs,Kn np z)->∀ k,cP k (zs.map (·.1))=cT (zs.map (·.2)) k:=by
 induction zs with
 | nil=>exact λU k=>by cases k <;> rfl
 | cons z zs ih=>
  intro h k
  have hz:=h z (.head _)
  have ih:=ih λw hw=>h w (.tail _ hw)
  rw [List.map_cons,List.map_cons,AU,AV]
  by_cases h1:z.1=[40]
  ·have ho:=hz.o
   rw [h1] at ho
   have ho:Nat.beq z.2 0=true:=ho.symm
   rw [if_pos h1,ho]
   exact ih (k+1)
  ·have ho:Nat.beq z.2 0=false:=hz.o.symm.trans (by simpa using h1)
   rw [if_neg h1,ho]
   by_cases h2:z.1=[41]
   ·have hc:Nat.beq z.2 1=true:=by rw [<-hz.c,h2];rfl
    rw [if_pos h2,hc]
    cases k with
    | zero=>rfl
    | succ k=>exact ih k
   ·have hc:Nat.beq z.2 1=false:=hz.c.symm.trans (by simpa using h2)
    rw [if_neg h2,hc]
    exact ih k
noncomputable def EF (nu:Nat->List Nat) (S:List Nat) (i:Nat):Nat:=fj nu S (vz S (((gw nu S).take i).filter λt=>!Nat.beq t 7).length)
structure vo (r:List Nat):Prop where
 t7:∀ t∈sk r,t<7
 ct:cT (sk r) 0=true
 cl:∀ p∈kI Ao (sk r),wq (sk r) p (vz (sk r) p)
 br:(sk r).filter (λt=>Nat.blt t 2)=CX r
 le:(kI uv (sk r)).map ((sk r).getD · 9)=r.map (2 + ·)
 ne:∀ k∈kI uv (sk r),lw (sk r) k≠[]
 co:(kI uv (sk r)).map (IW (sk r))=r.map λx=>(eJ r x).map (2 + ·)
theorem Dy {r} (hr:r∈an):vo r:=by
 have h:=List.all_eq_true.mp A0 r hr
 unfold GW at h
 simp only [Bool.and_eq_true,List.all_eq_true] at h
 obtain ⟨⟨h1,h2⟩,h3,h4,h5,h6,h7⟩:=h
 exact ⟨λt ht=>Nat.blt_eq.mp (h1 t ht),h2,λp hp=>A6 (h3 p hp),lO h4,lO h5,λk hk e=>by have:=h6 k hk;rw [e] at this;w_cond this,Bp h7⟩
theorem rB {nu S p} (hn:jd nu) (h7:∀ t∈S,t<7) (hp:p<=S.length):EF nu S (fj nu S p)=fj nu S (vz S p):=by
 unfold EF
 rw [rl,iU hn rfl,List.filter_eq_self.mpr λt ht=>?_,List.length_take_of_le hp]
 have:=h7 t (List.mem_of_mem_take ht)
 rw [oz (by omega)];rfl
section
variable {np:List Nat} {zs:List (Lt×Nat)}
theorem vc {k} (h:k<zs.length):∃ z∈zs,(zs.map (·.1)).getD k []=z.1/\(zs.map (·.2)).getD k 9=z.2:=by
 refine ⟨zs[k],List.getElem_mem _,?_,?_⟩
 ·rw [List.getD_eq_getElem?_getD,gY,List.getElem?_eq_getElem h];rfl
 ·rw [List.getD_eq_getElem?_getD,gY,List.getElem?_eq_getElem h];rfl
theorem yi (P:Lt->Bool) (Q:Nat->Bool) (h:∀ z∈zs,P z.1=Q z.2):((List.range (zs.map (·.1)).length).filter λk=>P ((zs.map (·.1)).getD k []))=kI Q (zs.map (·.2)):=by
 unfold kI
 rw [fJ,fJ]
 refine List.filter_congr λk hk=>?_
 obtain ⟨z,hz,e1,e2⟩:=vc (List.mem_range.mp hk)
 rw [e1,e2,h z hz]
theorem xu (a b):((zs.map (·.1)).drop a).take b=((zs.drop a).take b).map (·.1):=by
 rw [<-List.map_drop,<-List.map_take]
theorem xw (a b):((zs.map (·.2)).drop a).take b=((zs.drop a).take b).map (·.2):=by
 rw [<-List.map_drop,<-List.map_take]
theorem l9 {a b z} (h:z∈(zs.drop a).take b):z∈zs:=List.mem_of_mem_drop (List.mem_of_mem_take h)
theorem En (hk:∀ z∈zs,Kn np z) {i e} (h:wq (zs.map (·.2)) i e):F5 (zs.map (·.1)) i e:=by
 obtain ⟨h1,h2,h3,h4,h5⟩:=h
 rw [fJ] at h2
 obtain ⟨z,hz,e1,e2⟩:=vc h2
 have cut b:cP 0 (((zs.map (·.1)).drop i).take b)=cT (((zs.map (·.2)).drop i).take b) 0:=by
  rw [xu,xw]
  exact CY (λz hz=>hk z (l9 hz)) 0
 refine ⟨h1,by rw [fJ];exact h2,?_,(cut _).trans h4,λj a b c=>?_⟩
 ·rw [e1]
  rw [e2] at h3
  have:=(hk z hz).b (by rw [h3];rfl)
  rw [this,h3]
 ·rw [cut]
  obtain ⟨w,hw,f1,f2⟩:=vc (Nat.lt_trans b h2)
  refine h5 j a b (f2.trans ?_)
  rw [f1] at c
  have:=(hk w hw).c
  rw [c] at this
  exact Nat.eq_of_beq_eq_true this.symm
theorem t9 (P:Lt->Bool) (Q:Nat->Bool) (f:Nat->Lt) (zs:List (Lt×Nat)):(∀ z∈zs,P z.1=Q z.2)->(∀ z∈zs,Q z.2=true->z.1=f z.2)->(zs.map (·.1)).filter P=((zs.map (·.2)).filter Q).map f:=by
 induction zs with
 | nil=>exact λU U=>rfl
 | cons z zs ih=>
  intro h1 h2
  have ih:=ih (λw hw=>h1 w (.tail _ hw)) λw hw=>h2 w (.tail _ hw)
  rw [List.map_cons,List.map_cons,List.filter_cons,List.filter_cons,ih,h1 z (.head _)]
  by_cases h:Q z.2=true
  ·rw [if_pos h,if_pos h,List.map_cons,h2 z (.head _) h]
  ·rw [if_neg h,if_neg h]
end
theorem oR {f:Nat->Nat} {l:List Nat} (h:l≠[]):(l.map f).getLastD 0=f (l.getLastD 0):=by
 rw [List.getLastD_eq_getLast?,List.getLastD_eq_getLast?,List.getLast?_map,List.getLast?_eq_some_getLast h];rfl
theorem Ed {S k} (h:lw S k≠[]):(lw S k).getLastD 0∈kI Ao S:=by
 have:(lw S k).getLastD 0∈lw S k:=by
  rw [List.getLastD_eq_getLast?,List.getLast?_eq_some_getLast h];exact List.getLast_mem h
 exact (List.mem_filter.mp this).1
section
variable {np r:List Nat} {zs:List (Lt×Nat)} {nu:Nat->List Nat}
theorem z8 (hk:∀ z∈zs,Kn np z) (hu:jd nu) (ht:zs.map (·.2)=gw nu (sk r)):mD (zs.map (·.1))=(kI Ao (sk r)).map (fj nu (sk r)):=by
 rw [<-oS hu rfl,<-ht]
 exact yi (λu=>u==[40]) Ao λz hz=>(hk z hz).o
theorem sq (hk:∀ z∈zs,Kn np z) (hu:jd nu) (ht:zs.map (·.2)=gw nu (sk r)):iF lb (zs.map (·.1))=(kI uv (sk r)).map (fj nu (sk r)):=by
 rw [<-oS hu rfl,<-ht]
 exact yi lb uv λz hz=>(hk z hz).l
theorem wT (hs:vo r) (hk:∀ z∈zs,Kn np z) (hu:jd nu) (ht:zs.map (·.2)=gw nu (sk r)) {k} (h:k<(sk r).length):ji (zs.map (·.1)) (EF nu (sk r)) (fj nu (sk r) k)=(lw (sk r) k).map (fj nu (sk r)):=by
 unfold ji lw
 rw [z8 hk hu ht,List.filter_map]
 congr 1
 refine List.filter_congr λp hp=>?_
 have hp1:=(e9.mp hp).1
 show (decide _&&decide (_<EF nu (sk r) (fj nu (sk r) p)))=_
 rw [rB hu hs.t7 (Nat.le_of_lt hp1),decide_eq_decide.mpr (pd hp1),decide_eq_decide.mpr (pd h)]
 have e a b:decide (a<b)=Nat.blt a b:=by
  by_cases q:a<b
  ·rw [decide_eq_true q,Nat.blt_eq.mpr q]
  ·rw [decide_eq_false q]
   cases w:Nat.blt a b with
   | true=>exact absurd (Nat.blt_eq.mp w) q
   | false=>rfl
 rw [e,e]
theorem Hn (hs:vo r) (hk:∀ z∈zs,Kn np z) (hu:jd nu) (ht:zs.map (·.2)=gw nu (sk r)) {k} (h:k∈kI uv (sk r)):Dj lb (zs.map (·.1)) (EF nu (sk r)) (fj nu (sk r) k)=(IW (sk r) k).map λt=>aZ np (t - 2):=by
 have hn:=hs.ne k h
 have ha:=Ed hn
 unfold Dj IW
 rw [wT hs hk hu ht (e9.mp h).1,oR hn,rB hu hs.t7 (Nat.le_of_lt (e9.mp ha).1),xu,
  t9 lb uv (λt=>aZ np (t - 2)) _ (λz hz=>(hk z (l9 hz)).l) (λz hz q=>(hk z (l9 hz)).e q),<-xw,ht,oJ (hs.cl _ ha).1,iU hu rfl]
theorem yJ (hs:vo r) (hk:∀ z∈zs,Kn np z) (hu:jd nu) (ht:zs.map (·.2)=gw nu (sk r)):((iF lb (zs.map (·.1))).map λk=>(zs.map (·.1)).getD k [])=r.map (aZ np):=by
 have e:r.map (aZ np)=(r.map (2 + ·)).map λt=>aZ np (t - 2):=by
  rw [jJ]
  exact List.map_congr_left λx U=>by rw [Function.comp,Nat.add_sub_cancel_left]
 rw [sq hk hu ht,e,<-hs.le,jJ,jJ]
 refine List.map_congr_left λk hk'=>?_
 obtain ⟨h1,h2⟩:=e9.mp hk'
 have hl:zs.length=(gw nu (sk r)).length:=by rw [<-ht,fJ]
 obtain ⟨z,hz,e1,e2⟩:=vc (zs:=zs) (k:=fj nu (sk r) k) (by rw [hl];exact pf h1)
 rw [ht,qj h1] at e2
 show (zs.map (·.1)).getD (fj nu (sk r) k) []=aZ np ((sk r).getD k 9 - 2)
 rw [e1,e2]
 exact (hk z hz).e (by rw [<-e2];exact h2)
theorem FL (hs:vo r) (hk:∀ z∈zs,Kn np z) (hu:jd nu) (ht:zs.map (·.2)=gw nu (sk r)):((iF lb (zs.map (·.1))).map λk=>PV.list ((Dj lb (zs.map (·.1)) (EF nu (sk r)) k).map .str))=r.map λx=> .list ((eJ r x).map λy=> .str (aZ np y)):=by
 have e:(r.map λx=>PV.list ((eJ r x).map λy=> .str (aZ np y)))=(r.map λx=>(eJ r x).map (2 + ·)).map λl=> .list ((l.map λt=>aZ np (t - 2)).map .str):=by
  rw [jJ]
  refine List.map_congr_left λx U=>?_
  show _=PV.list ((((eJ r x).map (2 + ·)).map λt=>aZ np (t - 2)).map .str)
  rw [jJ,jJ]
  refine congrArg PV.list (List.map_congr_left λy U=>?_)
  show _=PV.str (aZ np (2 + y - 2))
  rw [Nat.add_sub_cancel_left]
 rw [sq hk hu ht,e,<-hs.co,jJ,jJ]
 refine List.map_congr_left λk hk'=>?_
 show PV.list ((Dj lb (zs.map (·.1)) (EF nu (sk r)) (fj nu (sk r) k)).map .str)=_
 rw [Hn hs hk hu ht hk'];rfl
theorem BM (hs:vo r) (hk:∀ z∈zs,Kn np z) (hu:jd nu) (ht:zs.map (·.2)=gw nu (sk r)):((zs.map (·.1)).filter wj).flatten=(CX r).map (40 + ·):=by
 have hb z (hz:z∈zs):wj z.1=Nat.blt z.2 2:=by
  unfold wj
  rw [(hk z hz).o,(hk z hz).c]
  unfold Ao
  match z.2 with
  | 0=>rfl
  | 1=>rfl
  | n+2=>
   show (false || false)=Nat.blt (n+2) 2
   cases w:Nat.blt (n+2) 2 with
   | true=>have:=Nat.blt_eq.mp w;omega
   | false=>rfl
 have hf:∀ l:List Nat,(l.map λt=>[40 + t]).flatten=l.map (40 + ·):=by
  intro l
  induction l with
  | nil=>rfl
  | cons a l ih=>rw [List.map_cons,List.flatten_cons,ih];rfl
 rw [t9 wj (λt=>Nat.blt t 2) (λt=>[40 + t]) zs hb λz hz q=>(hk z hz).b q,ht,iU hu rfl,hs.br,hf]
end
theorem Ds {np} (hn:np∈an):np.Nodup:=(o3 np).mp (List.mem_filter.mp hn).2
theorem k7 {np a b} (hn:np∈an) (ha:a<5) (hb:b<5) (h:aZ np a=aZ np b):a=b:=by
 have hl:=fE hn
 have h1:np.getD a 0=np.getD b 0:=by
  have:=(List.cons.inj h).1
  omega
 have e x (hx:x<np.length):np.getD x 0=np[x]:=by rw [List.getD_eq_getElem?_getD,List.getElem?_eq_getElem hx];rfl
 rw [e a (by omega),e b (by omega)] at h1
 exact (List.getElem_inj (Ds hn)).mp h1
theorem eA {r x} (hr:r∈an) (hx:x∈r):x<5:=by
 obtain ⟨k,hk,rfl⟩:=List.mem_iff_getElem.mp hx
 have:=g8 hr k
 rw [List.getD_eq_getElem?_getD,List.getElem?_eq_getElem hk] at this
 exact this
theorem oY {np r} (hn:np∈an) (hr:r∈an):(r.map (aZ np)).Nodup:=by
 have:=Ds hr
 unfold List.Nodup at this ⊢
 rw [List.pairwise_map]
 exact this.imp_of_mem λha hb hne e=>hne (k7 hn (eA hr ha) (eA hr hb) e)
theorem Cf (i):(Fu i).length<=6:=by
 obtain ⟨k,hk,e⟩:=I5 i
 unfold Fu
 rw [e]
 match k,hk with
 | 0,_=>decide
 | 1,_=>decide
 | 2,_=>decide
 | 3,_=>decide
 | 4,_=>decide
 | 5,_=>decide
structure IN (np r:List Nat) (t bare:Lt) (zs:List (Lt×Nat)) (nu:Nat->List Nat):Prop where
 tl:t.length<200
 bl:bare.length<200
 cut:i6 t bare
 uu:UU bare (zs.map (·.1))
 kn:∀ z∈zs,Kn np z
 nk:jd nu
 tk:zs.map (·.2)=gw nu (sk r)
theorem FI {np r} (hn:np∈an) (hr:r∈an) (p:Nat->Int):∃ bare zs nu,IN np r (we np (λk=>qD (p k)) r) bare zs nu:=
 ⟨we np (λk=>Fu (p k)) r,Cz np (λk=>F1 (p k)) r,ER np λk=>F1 (p k),
  Nat.lt_of_le_of_lt (pp λq=>uA _) (by decide),Nat.lt_of_le_of_lt (pp λq=>Cf _) (by decide),
  xr (λk=>Be (g8 hn) (λq=>Jw (p q)) r k) _,CA (λk=>FK (g8 hn) (λq=>(tc np (p q)).1) r k) _,
  λz hz=>Lp hn (El (g8 hr) (λq=>(tc np (p q)).2.1) z hz),HW (np:=np) λq=>(tc np (p q)).2.2,Cw⟩
theorem oH {t b} (h:i6 t b):sQ none false t=b:=by
 have:=h []
 rw [List.append_nil] at this
 exact this.trans (List.append_nil _)
noncomputable def gZ (r:List Nat):PV:= .str ((CX r).map (40 + ·))
noncomputable def bZ (np r:List Nat):PV:= .dS (r.map (aZ np)) (r.map λx=> .list ((eJ r x).map λy=> .str (aZ np y)))
theorem zM (H) {np r t bare zs nu} (hn:np∈an) (hr:r∈an) (h:IN np r t bare zs nu):eK H [.str t,.list (np.map a7)]=some (.tuple [gZ r,bZ np r]):=by
 have hs:=Dy hr
 have hm:∀ u∈zs.map (·.1),∃ z∈zs,z.1=u:=λu hu=>iW hu
 have htl:=h.tl
 have hbl:=h.bl
 rw [B5 H (bare:=bare) (us:=zs.map (·.1)) (E:=EF nu (sk r)) (lb:=lb) (by omega) (by omega) (oH h.cut) h.uu,BM hs h.kn h.nk h.tk,yJ hs h.kn h.nk h.tk,FL hs h.kn h.nk h.tk]
 ·rfl
 ·intro u hu
  obtain ⟨z,hz,rfl⟩:=hm u hu
  exact (h.kn z hz).g
 ·intro u hu
  obtain ⟨z,hz,rfl⟩:=hm u hu
  exact (h.kn z hz).q
 ·intro i hi
  rw [z8 h.kn h.nk h.tk] at hi
  obtain ⟨p,hp,rfl⟩:=iW hi
  refine En h.kn ?_
  rw [h.tk,rB h.nk hs.t7 (Nat.le_of_lt (e9.mp hp).1)]
  exact A7 h.nk (hs.cl p hp)
 ·intro u hu
  obtain ⟨z,hz,rfl⟩:=hm u hu
  exact (h.kn z hz).i
 ·rw [yJ hs h.kn h.nk h.tk]
  exact oY hn hr
 ·intro k hk
  rw [sq h.kn h.nk h.tk] at hk
  obtain ⟨p,hp,rfl⟩:=iW hk
  rw [wT hs h.kn h.nk h.tk (e9.mp hp).1]
  intro e
  exact hs.ne p hp (List.map_eq_nil_iff.mp e)
theorem vy (H) {np r t bare zs nu} (hr:r∈an) (h:IN np r t bare zs nu):az H [.str t]=some (.bool true):=by
 have htl:=h.tl
 rw [lC H _ (by omega),oH h.cut,j8 h.uu,CY h.kn,h.tk,rP h.nk,(Dy hr).ct]
theorem rR (H) {np r t bare zs nu} (h:IN np r t bare zs nu):az H [.str ([41]++t++[40])]=some (.bool false):=by
 have htl:=h.tl
 have c41:i6 [41] [41]:=i6.one (by decide) (by decide)
 have c40:i6 [40] [40]:=i6.one (by decide) (by decide)
 rw [lC H _ (by simp;omega),oH ((c41.app h.cut).app c40),j8 (((UU.one (by decide)).app h.uu).app (UU.one (by decide)))]
 rfl
noncomputable def sY (cells pieces names row rows:PV) (r tales text nest within plain:SV):List SV:=
 [.u,.d cells,.u,.u,.u,.d pieces,.u,.u,.u,.u,.d row,.u,.u,.d names,.u,.u,.u,.u,.u,.u,.u,.u,.u,.d rows,.u,.u,.u,r,.u,.u,
  .u,.u,.u,.u,.u,.u,.u,.u,.u,tales,text,nest,within,plain,.u,.u,.u,.u,.u,.u,.u,.u,.u,.u,.u,.u,.u,.u,.u,.u,.u,.u,.u,.u,.u,.u,.u,.u]
theorem Fw {cells pieces names:PV} {r}:Aq cells pieces names r=sY cells pieces names (bH r) (jC (cW r)) .u (.own (.list [])) .u .u .u .u:=rfl
section
variable {cells pieces names row rows:PV} {r0 tales text nest within plain:SV}
theorem Gz (H:Wf W) {r t:PV} (h:gt H [r,names,pieces]=some t):(Y0 H).1 (sY cells pieces names row rows (.d r) tales text nest within plain)=some (sY cells pieces names row rows (.d r) tales (.d t) nest within plain,.next):=by
 unfold sY
 wp_walk using Y0,h
theorem GA (H:Wf W) {t a b:PV} (h:eK H [t,names]=some (.tuple [a,b])):(Y1 H).1 (sY cells pieces names row rows r0 tales (.d t) nest within plain)=some (sY cells pieces names row rows r0 tales (.d t) (.d a) (.d b) plain,.next):=by
 unfold sY
 wp_walk using Y1,h
noncomputable def IZ (x:Nat) (l:List Nat):Nat:=l.foldl (λm y=>if y<m then y else m) x
theorem yX (l:List Nat):∀ x:Nat,sy (x:Int) (l.map λn:Nat=>(n:Int))=(IZ x l:Nat):=by
 induction l with
 | nil=>exact λU=>rfl
 | cons y l ih=>
  intro x
  show sy (if (y:Int)<(x:Int) then (y:Int) else (x:Int)) (l.map λn:Nat=>(n:Int))=((IZ (if y<x then y else x) l:Nat):Int)
  rw [<-ih]
  congr 1
  split <;> split <;> first | rfl | omega
theorem vD (l:List Nat):nw (l.map iP)=some (l.map λn:Nat=>(n:Int)):=by
 induction l with
 | nil=>rfl
 | cons y l ih=>
  rw [List.map_cons]
  show (nw (l.map iP)).map _=_
  rw [ih];rfl
theorem zr (x:Nat) (l:List Nat):zq [.list ((x::l).map iP)]=some (iP (IZ x l)):=by
 show (nw ((x::l).map iP)).bind HS=_
 rw [vD]
 exact congrArg (λi=>some (PV.int i)) (yX l x)
noncomputable def JJ:List Nat->Nat
 | []=>0
 | x::l=>IZ x l
noncomputable def IV (r:List Nat) (i k:Nat):Bool:=Nat.beq (JJ ((r.drop (min i k)).take (max i k+1 - min i k))) (r.getD i 0)
theorem BB:an.all (λr=>[0,1,2,3,4].all λi=>Bn (([0,1,2,3,4].filter (IV r i)).map (r.getD · 0)) (mX r i))=true:=by kernel_rfl
theorem tV:an.map (λr=>[0,1,2,3,4].map λi=>(r.getD i 0,mX r i))=an.map λr=>r.map λx=>(x,eJ r x):=by kernel_rfl
theorem H6 {a b:Nat}:zq [.int a,.int b]=some (.int (min a b:Nat)):=by
 show some (PV.int (if (b:Int)<a then b else a))=_
 congr 2
 split <;> omega
theorem H5 {a b:Nat}:EY [.int a,.int b]=some (.int (max a b:Nat)):=by
 show some (PV.int (if (b:Int) > a then b else a))=_
 congr 2
 split <;> omega
theorem GC (H:Wf W) {np r} {ts t a b:PV} (hn:np∈an) (hr:r∈an):(Y2 H).1 (sY cells pieces (.list (np.map a7)) row rows (.d (bH r)) (.own ts) (.d t) (.d a) (.d b) plain)=some (sY cells pieces (.list (np.map a7)) row rows (.d (bH r)) (.own ts) (.d t) (.d a) (.d b) (.d (bZ np r)),.next):=by
 have hra:j0 [.int 5]=some ([0,1,2,3,4].map λi=> .int ((i:Nat):Int)):=rfl
 have hrl:=fE hr
 have hri {i:Nat} (hi:i<5):a8 (bH r) (.int (i:Nat))=some (.int (r.getD i 0:Nat)):=ef (by
  have:i<r.length:=by omega
  rw [gY,List.getElem?_eq_getElem this,List.getD_eq_getElem?_getD,List.getElem?_eq_getElem this];rfl)
 have hni (i:Nat):a8 (.list (np.map a7)) (.int (r.getD i 0:Nat))=some (.str (aZ np (r.getD i 0))):=uC hn (g8 hr i)
 have h5 {i:Nat} (hi:i∈[0,1,2,3,4]):i<5:=by
  simp at hi;omega
 have hkey:([0,1,2,3,4].map λi=>aZ np (r.getD i 0))=r.map (aZ np):=by
  have:=congrArg (List.map λq:Nat×List Nat=>aZ np q.1) (aQ tV hr)
  rw [jJ,jJ] at this
  exact this
 have hval:([0,1,2,3,4].map λi=>PV.list ((mX r i).map λy=> .str (aZ np y)))=r.map λx=> .list ((eJ r x).map λy=> .str (aZ np y)):=by
  have:=congrArg (List.map λq:Nat×List Nat=>PV.list (q.2.map λy=> .str (aZ np y))) (aQ tV hr)
  rw [jJ,jJ] at this
  exact this
 unfold sY
 wp_walk using Y2
 rw [jS [0,1,2,3,4] (λi=>PV.int ((i:Nat):Int)) (λi=>[.u,.d (.int ((i:Nat):Int)),.u,.d (.list (np.map a7)),.d (bH r)]) (λi=>aZ np (r.getD i 0)) (λi=> .list ((mX r i).map λy=> .str (aZ np y)))]
 rotate_left
 ·wp_walk using hra
 ·decide
 ·rw [hkey];exact oY hn hr
 ·intro z hz;rfl
 ·intro w hw z hz;rfl
 ·intro z hz
  wp_walk using hri (h5 hz),hni
 ·intro i hi
  have hi5:=h5 hi
  have ht:=lO (List.all_eq_true.mp (List.all_eq_true.mp BB r hr) i hi)
  wp_walk
  rw [eI [0,1,2,3,4] (λi=>PV.int ((i:Nat):Int)) (λk=>[.u,.d (.int ((k:Nat):Int)),.u,.u,.d (.int ((i:Nat):Int)),.d (.list (np.map a7)),.d (bH r)]) (IV r i) (λk=> .str (aZ np (r.getD k 0)))]
  rotate_left
  ·wp_walk using hra
  ·decide
  ·intro z hz;rfl
  ·intro w hw z hz;rfl
  ·intro k hk
   have hk5:=h5 hk
   have hs:dh (bH r) (some ((min i k:Nat):Int)) (some (((max i k:Nat):Int)+1)) none=some (.list (((r.drop (min i k)).take (max i k+1 - min i k)).map iP)):=by
    show dh (.list (r.map iP)) (some ((min i k:Nat):Int)) (some ((max i k+1:Nat):Int)) none=_
    rw [eg,iA,<-List.map_drop,<-List.map_take]
    exact dC (by rw [fJ,List.length_take,List.length_drop];unfold be;omega)
   have hm:zq [.list (((r.drop (min i k)).take (max i k+1 - min i k)).map iP)]=some (.int (JJ ((r.drop (min i k)).take (max i k+1 - min i k)):Nat)):=by
    cases e:(r.drop (min i k)).take (max i k+1 - min i k) with
    | nil=>
     have:=congrArg List.length e
     rw [List.length_take,List.length_drop,List.length_nil] at this
     omega
    | cons x l=>exact zr x l
   have hb:((JJ ((r.drop (min i k)).take (max i k+1 - min i k)):Int)==(r.getD i 0:Int))=IV r i k:=by
    unfold IV
    rw [Bool.eq_iff_iff,beq_iff_eq,Nat.beq_eq]
    omega
   wp_walk using H6,H5,hs,hm,hri hi5,hb
  ·intro k hk _
   wp_walk using hri (h5 hk),hni
  wp_walk
  rw [<-ht,jJ]
  rfl
 rw [hkey,hval]
 wp_walk
 rfl
theorem qB {L:Nat->Lt} {g:Nat->PV} {r:List Nat}:∀ {x},x∈r->(∀ y∈r,L y=L x->y=x)->eO (r.map L) (r.map g) (L x)=some (g x):=by
 induction r with
 | nil=>
  intro x h
  w_cond h
 | cons a r ih=>
  intro x h hi
  rw [List.map_cons,List.map_cons,l7]
  by_cases e:L a=L x
  ·rw [if_pos e,hi a (.head _) e]
  ·rw [if_neg e]
   rcases aX h with q | q
   ·exact absurd (congrArg L q.symm) e
   ·exact ih q λy hy=>hi y (.tail _ hy)
theorem ye {L:Nat->Lt} {f:Nat->PV} {lk:Lt->Option PV} {r:List Nat}:(∀ x∈r,∃ y,lk (L x)=some y/\gM 4 (f x) y=some true)->gW lk (r.map L) (r.map f)=some true:=by
 induction r with
 | nil=>exact λU=>rfl
 | cons a r ih=>
  intro h
  obtain ⟨y,h1,h2⟩:=h a (.head _)
  rw [List.map_cons,List.map_cons,lV,h1]
  simp only [h2,ih λx hx=>h x (.tail _ hx)]
  rfl
theorem m0 {L:Nat->Lt} {f g:Nat->PV} {r r2:List Nat} (hl:r.length=r2.length) (hm:∀ x∈r,x∈r2) (hi:∀ x∈r,∀ y∈r2,L y=L x->y=x) (he:∀ x∈r,gM 4 (f x) (g x)=some true):rU (.dS (r.map L) (r.map f)) (.dS (r2.map L) (r2.map g))=some true:=by
 show (if (r.map L).length=(r2.map L).length then gW (eO (r2.map L) (r2.map g)) (r.map L) (r.map f) else some false)=_
 rw [if_pos (by rw [fJ,fJ,hl])]
 exact ye λx hx=>⟨g x,qB (hm x hx) (hi x hx),he x hx⟩
theorem wO:∀ l:List (Option Bool),(∀ o∈l,o=some true)->eH l=some true:=by
 intro zv
 induction zv with
 | nil=>exact λU=>rfl
 | cons o l ih=>
  intro h
  rw [h o (.head _)]
  show (eH l).map (true&&·)=_
  rw [ih λq hq=>h q (.tail _ hq)];rfl
theorem nW (ls:List Lt):gM 4 (.list (ls.map PV.str)) (.list (ls.map .str))=some true:=by
 show (if _ then eH _ else _)=_
 rw [if_pos rfl]
 refine wO _ λo ho=>?_
 rw [List.zipWith_map,List.zipWith_self] at ho
 obtain ⟨x,_,rfl⟩:=iW ho
 show some (x==x)=_
 simp
theorem tU {np r x}:((eJ r x).map λy=>PV.str (aZ np y))=((eJ r x).map (aZ np)).map .str:=by
 rw [jJ];rfl
theorem sR {np r} (hn:np∈an) (hr:r∈an):FU (bZ np r) (bZ np r)=some false:=by
 have:rU (bZ np r) (bZ np r)=some true:=m0 rfl (λx hx=>hx) (λx hx y hy h=>k7 hn (eA hr hy) (eA hr hx) h) λx hx=>by
  rw [tU];exact nW _
 show (rU (bZ np r) (bZ np r)).map _=_
 rw [this];rfl
theorem GD (H:Wf W) {np q t} (h1:az H [.str t]=some (.bool true)) (h2:az H [.str ([41]++t++[40])]=some (.bool false)) (hl:t.length<200) (h3:FU (bZ np q) (bZ np q)=some false):
  (Y3 H).1 (sY cells pieces names row rows r0 tales (.d (.str t)) nest (.d (bZ np q)) (.d (bZ np q)))=some (sY cells pieces names row rows r0 tales (.d (.str t)) nest (.d (bZ np q)) (.d (bZ np q)),.next):=by
 have g1:ei (41::t)=some (.str (41::t)):=dg (by simp [be];omega)
 have g2:ei (41::(t++[40]))=some (.str (41::(t++[40]))):=dg (by simp [be];omega)
 have h2:az H [.str (41::(t++[40]))]=some (.bool false):=h2
 have i1:rO (.bool true) (.bool true)=some false:=rfl
 have i2:rO (.bool false) (.bool false)=some false:=rfl
 unfold sY
 wp_walk using Y3,h1,h2,g1,g2,i1,i2,h3
noncomputable def hO (np r:List Nat):PV:= .tuple [gZ r,.dS (r.map (aZ np)) (r.map λx=> .list ((eu ((eJ r x).map (aZ np))).map .str))]
theorem GE (H:Wf W) {np r} (hn:np∈an) (hr:r∈an) {ts:List PV} (ht:ts.length<100):(Y4 H).1 (sY cells pieces names row rows r0 (.own (.list ts)) text (.d (gZ r)) within (.d (bZ np r)))=some (sY cells pieces names row rows r0 (.own (.list (ts++[hO np r]))) text (.d (gZ r)) within (.d (bZ np r)),.next):=by
 have hi:gI (bZ np r)=some (r.map λx=> .str (aZ np x)):=by
  show some ((r.map (aZ np)).map PV.str)=_
  rw [jJ];rfl
 have hl:b9 (ts++[hO np r])=some (.list (ts++[hO np r])):=dC (by simp [be];omega)
 have hl:b9 (ts++[PV.tuple [gZ r,.dS (r.map (aZ np)) (r.map λx=> .list ((eu ((eJ r x).map (aZ np))).map .str))]])=some (.list (ts++[hO np r])):=hl
 unfold sY
 wp_walk using Y4
 rw [jS r (λx=>PV.str (aZ np x)) (λx=>[.u,.d (.str (aZ np x)),.u,.d (bZ np r)]) (aZ np) (λx=> .list ((eu ((eJ r x).map (aZ np))).map .str))]
 rotate_left
 ·wp_walk using hi
 ·rw [fE hr];decide
 ·exact oY hn hr
 ·intro z hz;rfl
 ·intro w hw z hz;rfl
 ·intro z hz
  wp_walk
 ·intro x hx
  have h1:a8 (bZ np r) (.str (aZ np x))=some (.list (((eJ r x).map (aZ np)).map .str)):=by
   rw [<-tU]
   exact qB hx λy hy h=>k7 hn (eA hr hy) (eA hr hx) h
  have h2:zz [.list (((eJ r x).map (aZ np)).map PV.str)]=some (.list ((eu ((eJ r x).map (aZ np))).map .str)):=by
   show (jF (((eJ r x).map (aZ np)).map PV.str)).bind _=_
   rw [nV]
   refine if_pos ?_
   have:=fE hr
   rw [fJ]
   unfold eJ mX
   rw [List.length_take,List.length_drop]
   omega
  wp_walk using h1,h2
 wp_walk using hl
theorem wm (H:Wf W) {np r} {p:Nat->Int} (hn:np∈an) (hr:r∈an) {ts:List PV} (ht:ts.length<100):∃ t a b c:PV,(Jb H).1 (sY cells (bW λk=>qD (p k)) (.list (np.map a7)) row rows (.d (bH r)) (.own (.list ts)) text nest within plain)=
  some (sY cells (bW λk=>qD (p k)) (.list (np.map a7)) row rows (.d (bH r)) (.own (.list (ts++[hO np r]))) (.d t) (.d a) (.d b) (.d c),.next):=by
 obtain ⟨bare,zs,nu,hx⟩:=FI hn hr p
 have h0:=Ct H hr hn (g:=λk=>qD (p k)) λq=>uA _
 refine ⟨.str (we np (λk=>qD (p k)) r),gZ r,bZ np r,bZ np r,?_⟩
 show aV (Y0 H).1 (aV (Y1 H).1 (aV (Y2 H).1 (aV (Y3 H).1 (aV (Y4 H).1 _)))) _=_
 rw [aW,Gz H h0,bk,aW,GA H (zM H hn hr hx),bk,aW,GC H hn hr,bk,aW,GD H (vy H hr hx) (rR H hx) hx.tl (sR hn hr),bk,aW,GE H hn hr ht,bk]
end
theorem y5:an.all (λr=>(cW r).all λs=>Bn (CX r) (CX s)&&r.all λx=>(eJ r x).isPerm (eJ s x))=true:=by kernel_rfl
theorem wN:an.all (λr=>[0,1,2,3,4].all λx=>r.any (Nat.beq x))=true:=by kernel_rfl
theorem Ca {r x} (hr:r∈an) (hx:x<5):x∈r:=by
 obtain ⟨y,hy,e⟩:=List.any_eq_true.mp (List.all_eq_true.mp (List.all_eq_true.mp wN r hr) x (su hx))
 rw [Nat.eq_of_beq_eq_true e];exact hy
theorem vZ {A B:List Lt} (h:A.Perm B):eu A=eu B:=by
 have s (ls:List Lt):(eu ls).Pairwise λa b=>k6 a b=true:=List.pairwise_mergeSort (le:=k6) jW nC ls
 refine (((List.mergeSort_perm A k6).trans h).trans (List.mergeSort_perm B k6).symm).eq_of_pairwise (λa b U U q1 q2=>?_) (s A) (s B)
 simp only [k6,decide_eq_true_eq] at q1 q2
 exact List.le_antisymm q1 q2
theorem Et {ks xs e}:An (.dS ks xs) e=rU (.dS ks xs) e:=rfl
theorem AT {a b c d:PV}:Am (.tuple [a,b]) (.tuple [c,d])=eH [An a c,An b d]:=by
 unfold Am
 exact if_pos rfl
theorem Cs {np r s} (hn:np∈an) (hr:r∈an) (hs:s∈an) (h:s∈cW r):Am (hO np r) (hO np s)=some true:=by
 have hb:=List.all_eq_true.mp (List.all_eq_true.mp y5 r hr) s h
 rw [Bool.and_eq_true,List.all_eq_true] at hb
 have h1:gZ r=gZ s:=by
  unfold gZ
  rw [lO hb.1]
 have h2:rU (.dS (r.map (aZ np)) (r.map λx=> .list ((eu ((eJ r x).map (aZ np))).map .str))) (.dS (s.map (aZ np)) (s.map λx=> .list ((eu ((eJ s x).map (aZ np))).map .str)))=some true:=
  m0 (by rw [fE hr,fE hs]) (λx hx=>Ca hs (eA hr hx)) (λx hx y hy q=>k7 hn (eA hs hy) (eA hr hx) q) λx hx=>by
   rw [vZ ((List.isPerm_iff.mp (hb.2 x hx)).map (aZ np))];exact nW _
 have h3:An (gZ s) (gZ s)=some true:=by
  show some ((CX s).map (40 + ·)==(CX s).map (40 + ·))=_
  rw [beq_self_eq_true]
 unfold hO
 rw [AT,h1,h3,Et,h2];rfl
theorem Ea (H:Wf W) {cells pieces names row rows t1 t2:PV} {r text nest within plain} (h:Am t1 t2=some true):(IP H).1 (sY cells pieces names row rows r (.own (.list [t1,t2])) text nest within plain)=some (sY cells pieces names row rows r (.own (.list [t1,t2])) text nest within plain,.ret (.d (.bool true))):=by
 have i1:a8 (.list [t1,t2]) (.int 0)=some t1:=rfl
 have i2:a8 (.list [t1,t2]) (.int 1)=some t2:=rfl
 unfold sY
 wp_walk using IP,i1,i2,h
theorem GG {cells pieces names row rows d:PV} {r:SV} {ts:List PV} {t a b c:PV}:cF aD (sY cells pieces names row rows r (.own (.list ts)) (.d t) (.d a) (.d b) (.d c)) 27 (.d d)=sY cells pieces names row rows (.d d) (.own (.list ts)) (.d t) (.d a) (.d b) (.d c):=by kernel_rfl
theorem Ee {cells pieces names row rows d:PV} {r:SV} {ts:List PV}:cF aD (sY cells pieces names row rows r (.own (.list ts)) .u .u .u .u) 27 (.d d)=sY cells pieces names row rows (.d d) (.own (.list ts)) .u .u .u .u:=by kernel_rfl
theorem yN (H:Wf W) (xs:List Int):fC (bC aD [0] (CM H).1) [.list (xs.map .int)]=some (.bool true):=by
 refine EK H xs λc0 c1 c2 c3 c4 c5 c6 p np hn r hr=>?_
 obtain ⟨s,h,e⟩:=D9 H (pieces:=bW λk=>qD (p k)) (names:= .list (np.map a7)) (c0:=c0) (c1:=c1) (c2:=c2) (c3:=c3) (c4:=c4) (c5:=c5) (c6:=c6) hr
 have hs:s∈an:=du (List.all_eq_true.mp (List.all_eq_true.mp nQ r hr) s h)
 obtain ⟨t1,a1,b1,d1,e1⟩:=wm H (cells:=bP c0 c1 c2 c3 c4 c5 c6) (row:=bH r) (rows:=jC (cW r)) (text:= .u) (nest:= .u) (within:= .u) (plain:= .u) (p:=p) hn hr (ts:=[]) (by decide)
 obtain ⟨t2,a2,b2,d2,e2⟩:=wm H (cells:=bP c0 c1 c2 c3 c4 c5 c6) (row:=bH r) (rows:=jC (cW r)) (text:= .d t1) (nest:= .d a1) (within:= .d b1) (plain:= .d d1) (p:=p) hn hs (ts:=[]++[hO np r]) (by simp)
 refine ⟨sY (bP c0 c1 c2 c3 c4 c5 c6) (bW λk=>qD (p k)) (.list (np.map a7)) (bH r) (jC (cW r)) (.d (bH s)) (.own (.list ([]++[hO np r]++[hO np s]))) (.d t2) (.d a2) (.d b2) (.d d2),?_⟩
 unfold HF
 rw [aW,e,Fw,cR (congrArg some Ee) e1,cR (congrArg some GG) e2,sd,bk,aW]
 exact congrArg (uE · _) (Ea H (Cs hn hr hs h))
theorem bq {prog w h mg a o} (e:h.get? a=some o) (n1:a≠122) (n2:a≠151):(hZ prog w h mg).G.get? a=some o:=
 hideAll_get _ e (by simp [n1,n2])
theorem rx {prog w h mg m a} (e:h.Ns a m) (n1:a≠122) (n2:a≠151):(hZ prog w h mg).G.Ns a m:=
 e.at' λo e=>bq e n1 n2
structure jN (h:Heap) (c P:Addr):Prop where
 tb:h.get? P=some (jI #[])
 cd:∃ o vs file tf flags tg inF text tt,h.get? c=some o/\o.cls= .type "code"/\o.data= .fields vs/\vs[11]? =some (.ref P)/\vs.getD 11 .none= .ref P/\vs.getD 18 .none= .str file tf/\vs.getD 7 .none= .int flags tg/\vs.getD 9 .none= .bool inF/\vs.getD 10 .none= .int text tt
 ne:c≠P
theorem jN.code {h c P} (x:jN h c P):h.IsCode c P #[]:=by
 obtain ⟨o,vs,file,tf,flags,tg,inF,text,tt,h1,h2,h3,h4,h5,h6,h7,h8,h9⟩:=x.cd
 exact ⟨o,vs,file,tf,flags,tg,inF,text,tt,_,h1,h3,h5,h6,h7,h8,h9,x.tb,rfl,trivial,x.ne⟩
theorem jN.table {h c P} (x:jN h c P):h.TableAt c P #[]:=by
 obtain ⟨o,vs,file,tf,flags,tg,inF,text,tt,h1,h2,h3,h4,h5,h6,h7,h8,h9⟩:=x.cd
 exact ⟨⟨o,vs,h1,h2,h3,h4⟩,x.tb⟩
theorem ID {prog:Program} {w:World} {h:Heap} {mg mb:Str->Option Value} (t1:jN h 124 122) (t2:jN h 153 151) (hl:∃ o,h.get? (h.objs.size - 1)=some o) (h151:h.objs.size=156)
  (hs:∃ o,h.get? sysModules=some o) (hn:h.NoLimit) (hm:h.Ns mainGlobals mg) (hb:h.Ns builtinsNs mb) (hbb:∀ x:Str,x≠"__name__"->mb x=bootBuiltins x) (hbm:∃ ob,mg "__builtins__"=some (.ref 4)/\h.get? 4=some ob/\ob.cls= .type "module"/\ob.dict=some builtinsNs/\ob.data= .plain):AJ (hZ prog w h mg) where
 tnd:=by show [122,151].Nodup;decide
 tG:=λb hb=>hideAll_none _ hb
 last:=by
  obtain ⟨o,e⟩:=hl
  have hz:(hZ prog w h mg).G.objs.size=156:=(hideAll_size _ _).trans h151
  rw [h151] at e
  rw [hz]
  exact ⟨o,bq e (by decide) (by decide)⟩
 sysm:=let ⟨o,e⟩:=hs;⟨o,bq e (by decide) (by decide)⟩
 nolimit:=let ⟨mc,e,q⟩:=hn;⟨mc,rx e (by decide) (by decide),q⟩
 main:=rx hm (by decide) (by decide)
 blt:=⟨mb,rx hb (by decide) (by decide),hbb⟩
 bmod:=let ⟨ob,e1,e2,e3,e4,e5⟩:=hbm;⟨4,ob,e1,by decide,bq e2 (by decide) (by decide),e3,e4,e5⟩
theorem Hi {prog w s mg} (ok:AJ (hZ prog w s.heap mg)) (t1:jN s.heap 124 122) (t2:jN s.heap 153 151) (hg:s.gens=#[]):GI (hZ prog w s.heap mg) s:=by
 refine ⟨ok,λb o e=>of_hideAll _ e,λt ht=>?_,AllBare.of_eq hg⟩
 have none_in:∀ (pos:Pos) (c':Value),codeAmong pos (#[]:Array Value).toList=some c'->False:=λpos c' e=>by w_cond e
 rcases aX ht with rfl | ht
 ·exact ⟨#[],t1.code,t1.table,λpos c' e=>(none_in pos c' e).elim⟩
 ·rw [aE ht]
  exact ⟨#[],t2.code,t2.table,λpos c' e=>(none_in pos c' e).elim⟩
theorem BQ {prog w s s' mg} (g:GI (hZ prog w s.heap mg) s) (t1:jN s.heap 124 122) (t2:jN s.heap 153 151) (k:Gr (hZ prog w s.heap mg) s s'):OldK s.heap s'.heap:=by
 have g':=k.gi g
 have key:∀ b o,s.heap.get? b=some o->b∈(hZ prog w s.heap mg).T->∃ ps,o=jI #[]/\s'.heap.get? b=some (jI ps)/\isCodeTable s.heap b:=λb o e hb=>by
  obtain ⟨ps,e'⟩:=g'.tab.fields hb
  have hb':b=122∨b=151:=by
   rcases aX hb with q | q
   ·exact .inl q
   ·exact .inr (aE q)
  rcases hb' with rfl | rfl
  ·rw [t1.tb] at e;w_cond e;exact ⟨ps,rfl,e',t1.table.isCodeTable⟩
  ·rw [t2.tb] at e;w_cond e;exact ⟨ps,rfl,e',t2.table.isCodeTable⟩
 refine ⟨λb o e=>?_,λb o e=>?_⟩
 ·by_cases hb:b∈(hZ prog w s.heap mg).T
  ·obtain ⟨ps,rfl,e',q⟩:=key b o e hb
   refine .inr (.inl ⟨q,rfl,#[],ps,rfl,?_⟩)
   rw [e'];simp
  ·exact .inl (k.kp b o hb e)
 ·by_cases hb:b∈(hZ prog w s.heap mg).T
  ·obtain ⟨ps,rfl,e',q⟩:=key b o e hb
   exact ⟨_,e'⟩
  ·exact ⟨o,k.kp b o hb e⟩
theorem kC {W:Wd} {F:Heap}:∀ (vs:List Value) (ns:List Int),IntsAre vs ns->ae W F vs (ns.map .int)
 | _,_,.nil=> .nil
 | _,_,.cons i t h=> .cons (.int i t) (kC _ _ h)
theorem dJ {prog w h mg a q} (x:h.CodeRec (.ref a) q) (n1:a≠122) (n2:a≠151):(hZ prog w h mg).G.CodeRec (.ref a) q:=by
 obtain ⟨c,o,vs,t,e1,e2,e3,e4⟩:=x
 w_cond e1
 exact ⟨_,o,vs,t,rfl,bq e2 n1 n2,e3,e4⟩
theorem EQ:typeLookup (.type "object") "comp_select_list"=pure none:=by rw [typeLookup_type,builtinLookup_eq_fast];kernel_rfl

end
section
open PySem.W.X
set_option hygiene true
set_option tactic.hygienic true
theorem ud {d:PySem.Data} {vs:Array Value} (h:Eu d=some vs):d= .fields vs:=by
 cases d <;> first | exact congrArg PySem.Data.fields (Option.some.inj h) | cases h
theorem Cj {v:Value} {n:Str} (h:Ip v=some n):∃ t,v= .str n t:=by
 cases v <;> first | (cases h;exact ⟨_,rfl⟩) | cases h
theorem oG {h:Heap} {c:Addr} {q:Str} (e:lD h c=some q):h.CodeRec (.ref c) q:=by
 obtain ⟨o,ho,e⟩:=Option.bind_eq_some_iff.mp e
 obtain ⟨vs,hv,e⟩:=Option.bind_eq_some_iff.mp e
 obtain ⟨v,h1,e⟩:=Option.bind_eq_some_iff.mp e
 obtain ⟨t,rfl⟩:=Cj e
 exact ⟨_,o,vs,t,rfl,ho,ud hv,h1⟩
theorem uS {v:Value} {a:Addr} (h:Fj v=some a):v= .ref a:=by
 cases v <;> first | (cases h;rfl) | cases h
theorem Ck {v:Value} (h:Ir v=true):∃ f t,v= .str f t:=by
 cases v <;> first | exact ⟨_,_,rfl⟩ | cases h
theorem ur {v:Value} (h:EB v=true):∃ f t,v= .int f t:=by
 cases v <;> first | exact ⟨_,_,rfl⟩ | cases h
theorem w7 {v:Value} (h:CW v=true):∃ b,v= .bool b:=by
 cases v <;> first | exact ⟨_,rfl⟩ | cases h
theorem xn {v:Value} (h:C9 v=true):v= .type "code":=by
 cases v <;> first | exact congrArg Value.type (eq_of_beq h) | cases h
theorem u7 {h:Heap} {c P:Addr} (e:h.get? P=some (jI #[])) (b:rk h c P=true) (ne:c≠P):jN h c P:=by
 have b':=eq_of_beq b
 obtain ⟨o,e1,b1⟩:=Option.bind_eq_some_iff.mp b'
 obtain ⟨vs,e2,b2⟩:=Option.map_eq_some_iff.mp b1
 simp only [Iw,Bool.and_eq_true,beq_iff_eq] at b2
 obtain ⟨h1,h2,h3,h4,h5,h6,h7⟩:=b2
 obtain ⟨v,h8,h9⟩:=Option.bind_eq_some_iff.mp h2
 rw [uS h9] at h8
 obtain ⟨f,tf,q1⟩:=Ck h4
 obtain ⟨g,tg,q2⟩:=ur h5
 obtain ⟨inF,q3⟩:=w7 h6
 obtain ⟨x,tt,q4⟩:=ur h7
 exact ⟨e,⟨o,vs,f,tf,g,tg,inF,x,tt,e1,xn h1,ud e2,h8,uS h3,q1,q2,q3,q4⟩,ne⟩
theorem yd:LeftO po s8 sr (λs=>xlAt s8 [] s&&recOk PySem.Challenge.rw_xh0027_02.row.toRowW.records s) uz uZ 1756:=λw=>by
 kernel_rfl
end
section
open PySem.W.X
set_option hygiene true
set_option tactic.hygienic true
theorem y4 {α β γ:Type} {f:α->γ} {L:List (α×β)} {e:β->γ} (h:L.map (λp=>f p.1)=L.map λp=>e p.2) (i:Nat) {a:α} {b:β} (q:L[i]? =some (a,b)):f a=e b:=by
 have:=congrArg (λl=>l[i]?) h
 simp only [gY,q,Option.map_some,Option.some.injEq] at this
 exact this
theorem HV {h h':Heap} {a:Addr} {m:Str->Option Value} (n:h'.Ns a m) (i:h.isNs a=true) (k:∀ b o,h.get? b=some o->h'.get? b=some o) (y:Str):m y=h.nsMap a y:=by
 obtain ⟨o,es,ep,h1,h2,h3,h4⟩:=Heap.Ns.of_isNs i
 obtain ⟨o',es',ep',g1,g2,g3,g4⟩:=n
 have e:=k _ _ h1
 rw [g1] at e
 cases e
 rw [g2] at h2
 cases h2
 rw [<-g4 y,h4 y]
theorem gx {α β:Type} {f:α->β} {l:List α} {r:List β} (h:l.map f=r) (i:Nat) {a:α} {b:β} (q:l[i]? =some a) (p:r[i]? =some b):f a=b:=by
 rw [<-h,gY,q] at p
 exact Option.some.inj p
structure Lf (s₀ s₁:Shared) (mg:Str->Option Value):Prop where
 ob:∀ (i:Nat) {a:Addr} {o:Obj},vM[i]? =some (a,o)->s₁.heap.get? a=some o
 sz:s₀.heap.objs.size=155
 gl:∀ (i:Nat) {y:Str} {a:Addr},gv[i]? =some (y,a)->mg y=some (.ref a)
 bm:mg "__builtins__"=some (.ref 4)
 bi:∀ y∈gc,mg y=none
 n94:s₁.heap.Ns 94 (s₀.heap.nsMap 94)
 v94:o0.map (λy=>s₀.heap.nsMap 94 y)=[none,none,none,none,some (.ref 85),some (.ref 92)]
 cd:∀ (i:Nat) {c:Addr} {q:Str},pT[i]? =some (c,q)->s₁.heap.CodeRec (.ref c) q
 t1:jN s₁.heap 124 122
 t2:jN s₁.heap 153 151
 sm:∃ o,s₁.heap.get? sysModules=some o
 kd:∀ D∈[16,25,34,43],D≠122/\D≠151/\∃ m,s₁.heap.Ns D m/\m "key"=some .none
theorem y7 {v:Value} (h:Dp v=true):v= .none:=by
 cases v <;> first | rfl | cases h
theorem HI {h:Heap} {D:Addr} (e:IY h D=true):h.Ns D (h.nsMap D)/\h.nsMap D "key"=some .none:=by
 unfold IY at e
 rw [Bool.and_eq_true,Option.any_eq_true] at e
 obtain ⟨e1,v,e2,e3⟩:=e
 rw [y7 e3] at e2
 exact ⟨Heap.Ns.of_isNs e1,e2⟩
theorem mG {h h':Heap} {c P:Addr} (k:∀ b o,h.get? b=some o->h'.get? b=some o) (e:rk h c P=true):rk h' c P=true:=by
 have b':=eq_of_beq e
 obtain ⟨o,e1,b1⟩:=Option.bind_eq_some_iff.mp b'
 unfold rk
 rw [k _ _ e1,<-b1]
 rw [e1] at b'
 exact beq_iff_eq.mpr (by rw [b1];exact b1)
theorem Ef {s₀ s₁:Shared} {w:World} {mg:Str->Option Value} (e:uz s₀=uZ w) (k:∀ b o,s₀.heap.get? b=some o->s₁.heap.get? b=some o) (g:s₁.heap.Ns mainGlobals mg):Lf s₀ s₁ mg:=by
 have e1:vM.map (λp=>s₀.heap.get? p.1)=vM.map λp=>some p.2:=congrArg Prod.fst e
 have e2:s₀.heap.objs.size=155:=congrArg (λx=>x.2.1) e
 have e3:gv.map (λp=>s₀.heap.nsMap mainGlobals p.1)=gv.map λp=>some (.ref p.2):=congrArg (λx=>x.2.2.1) e
 have e4:(("__builtins__":Str)::gc).map (λy=>s₀.heap.nsMap mainGlobals y)=some (.ref 4)::gc.map λ_=>none:=congrArg (λx=>x.2.2.2.1) e
 have e5:o0.map (λy=>s₀.heap.nsMap 94 y)=[none,none,none,none,some (.ref 85),some (.ref 92)]:=congrArg (λx=>x.2.2.2.2.1) e
 have e6:pT.map (λp=>lD s₀.heap p.1)=pT.map λp=>some p.2:=congrArg (λx=>x.2.2.2.2.2.1) e
 have e7:(rk s₀.heap 124 122&&rk s₀.heap 153 151&&s₀.heap.isNs 94&&s₀.heap.isNs mainGlobals&&(s₀.heap.get? sysModules).isSome&&[16,25,34,43].all (IY s₀.heap))=true:=congrArg (λx=>x.2.2.2.2.2.2) e
 simp only [Bool.and_eq_true] at e7
 obtain ⟨⟨⟨⟨⟨a1,a2⟩,a3⟩,a4⟩,a5⟩,a6⟩:=e7
 have hm:=HV g a4 k
 rw [List.map_cons,List.cons.injEq] at e4
 have hob:∀ (i:Nat) {a:Addr} {o:Obj},vM[i]? =some (a,o)->s₁.heap.get? a=some o:=λi a o q=>k _ _ (y4 (e:=some) e1 i q)
 refine ⟨hob,e2,λi y a q=>?_,?_,λy hy=>?_,(Heap.Ns.of_isNs a3).keeps k,e5,λi c q h=>(oG (y4 (e:=some) e6 i h)).keeps k,u7 (hob 0 rfl) (mG k a1) (by decide),u7 (hob 1 rfl) (mG k a2) (by decide),?_,λD hD=>?_⟩
 ·rw [hm];exact y4 (γ:=Option Value) (e:=λa=>some (Value.ref a)) e3 i q
 ·rw [hm];exact e4.1
 ·rw [hm]
  obtain ⟨i,hi⟩:=List.mem_iff_getElem?.mp hy
  exact gx e4.2 i hi (by rw [gY,hi];rfl)
 ·obtain ⟨o,ho⟩:=Option.isSome_iff_exists.mp a5
  exact ⟨o,k _ _ ho⟩
 ·obtain ⟨q1,q2⟩:=HI (List.all_eq_true.mp a6 D hD)
  have hne:D≠122/\D≠151:=(show ∀ D∈[16,25,34,43],D≠122/\D≠151 by decide) D hD
  exact ⟨hne.1,hne.2,_,q1.keeps k,q2⟩
noncomputable def J0:Option Stmt->Pos
 | some (.FunctionDef _ _ _ _ _ _ _ _ _ p)=>p
 | _=>default
noncomputable def Jx:DefRec:=⟨"law",zA 20,aj 20,jD 20,J0 (bN 20)⟩
theorem yM (w:World) (s₀ s₁:Shared) (mg:Str->Option Value) (eW:W=hZ po w s₁.heap mg):AF w s₀ s₁ mg:=by
 intro mb G Y fa hmg hg args vals as L hpre hlay hrd hwl hlo
 refine Ground.open G ?_
 intro T B D TE TW
 wrow_args hpre hlay hrd hwl hlo
 obtain ⟨hat,hsz⟩:=script_at L
 have BG:=Ef Y L.keeps T.g
 rw [BG.sz] at hat hsz
 subst hat
 obtain rfl:(154:Addr)=fa:=by
  rw [BG.gl 16 rfl] at hmg
  exact Value.ref.inj (Option.some.inj hmg)
 rename_i xs _ _ _ _ _ _ _ vs _ ra hI hr hc1 hc2 hL w1 r0
 have hobj:=script_obj L hL
 clear hmg Y G D TE TW B
 have wok:AJ (hZ po w s₁.heap mg):=ID (mb:=mb) BG.t1 BG.t2 ⟨_,by rw [hsz];exact hobj⟩ hsz BG.sm T.nolimit T.g T.b T.builtins ⟨_,BG.bm,BG.ob 2 rfl,rfl,rfl,rfl⟩
 have gi:=Hi wok BG.t1 BG.t2 hg
 have H:Wf (hZ po w s₁.heap mg):={
  b:=BG.bi
  g:=λp hp=>by
   obtain ⟨i,hi⟩:=List.mem_iff_getElem?.mp hp
   exact BG.gl i hi
  f1:=⟨_,_,bq (BG.ob 3 rfl) (by decide) (by decide),dJ (BG.cd 0 rfl) (by decide) (by decide)⟩
  f2:=⟨_,_,bq (BG.ob 4 rfl) (by decide) (by decide),dJ (BG.cd 1 rfl) (by decide) (by decide)⟩
  f3:=⟨_,_,bq (BG.ob 5 rfl) (by decide) (by decide),dJ (BG.cd 2 rfl) (by decide) (by decide)⟩
  f4:=⟨_,_,bq (BG.ob 6 rfl) (by decide) (by decide),dJ (BG.cd 3 rfl) (by decide) (by decide)⟩
  f6:=⟨_,_,bq (BG.ob 7 rfl) (by decide) (by decide),dJ (BG.cd 4 rfl) (by decide) (by decide)⟩
  f7:=⟨_,_,bq (BG.ob 8 rfl) (by decide) (by decide),dJ (BG.cd 5 rfl) (by decide) (by decide)⟩
  f8:=⟨_,_,bq (BG.ob 9 rfl) (by decide) (by decide),dJ (BG.cd 6 rfl) (by decide) (by decide)⟩
  f11:=⟨_,_,bq (BG.ob 10 rfl) (by decide) (by decide),dJ (BG.cd 7 rfl) (by decide) (by decide)⟩
  f12:=⟨_,_,bq (BG.ob 11 rfl) (by decide) (by decide),dJ (BG.cd 8 rfl) (by decide) (by decide)⟩
  f13:=⟨_,_,bq (BG.ob 12 rfl) (by decide) (by decide),dJ (BG.cd 9 rfl) (by decide) (by decide)⟩
  f15:=⟨_,_,bq (BG.ob 13 rfl) (by decide) (by decide),dJ (BG.cd 10 rfl) (by decide) (by decide)⟩
  f16:=⟨_,_,bq (BG.ob 14 rfl) (by decide) (by decide),dJ (BG.cd 11 rfl) (by decide) (by decide)⟩
  f17:=⟨_,_,bq (BG.ob 15 rfl) (by decide) (by decide),dJ (BG.cd 12 rfl) (by decide) (by decide)⟩
  f18:=⟨_,_,bq (BG.ob 16 rfl) (by decide) (by decide),dJ (BG.cd 13 rfl) (by decide) (by decide)⟩
  f19:=⟨_,_,bq (BG.ob 17 rfl) (by decide) (by decide),dJ (BG.cd 14 rfl) (by decide) (by decide)⟩
  f20:=⟨_,_,bq (BG.ob 18 rfl) (by decide) (by decide),dJ (BG.cd 15 rfl) (by decide) (by decide)⟩
  i1:=⟨_,_,bq (BG.ob 19 rfl) (by decide) (by decide),dJ (BG.cd 16 rfl) (by decide) (by decide)⟩
  i2:=⟨_,_,bq (BG.ob 20 rfl) (by decide) (by decide),dJ (BG.cd 17 rfl) (by decide) (by decide)⟩
  d:=λt ht=>by
   simp only [List.mem_cons,List.not_mem_nil,or_false] at ht
   rcases ht with rfl | rfl | rfl | rfl
   ·exact ⟨_,bq (BG.ob 21 rfl) (by decide) (by decide)⟩
   ·exact ⟨_,bq (BG.ob 22 rfl) (by decide) (by decide)⟩
   ·exact ⟨_,bq (BG.ob 23 rfl) (by decide) (by decide)⟩
   ·exact ⟨_,bq (BG.ob 24 rfl) (by decide) (by decide)⟩
  kd:=λD hD=>let ⟨n1,n2,m,h1,h2⟩:=BG.kd D hD;⟨m,rx h1 n1 n2,h2⟩
  lam:=λt ht=>ht
  K:=⟨s₀.heap.nsMap 94,⟨⟨⟨_,_,_,_,_,_,_,_,_,_,_,_,bq (BG.ob 25 rfl) (by decide) (by decide)⟩,rx BG.n94 (by decide) (by decide)⟩,gx BG.v94 0 rfl rfl,gx BG.v94 1 rfl rfl,gx BG.v94 2 rfl rfl,gx BG.v94 3 rfl rfl,EQ⟩,gx BG.v94 4 rfl rfl,gx BG.v94 5 rfl rfl⟩ }
 have hlen:vs.length<=be:=by
  have h1:=hI.length
  have h2:xs.length<=63:=by omega
  rw [h1];unfold be;omega
 have H':Wf W:=eW.symm ▸ H
 have g2:GI W s₁:=eW.symm ▸ gi
 have hds:ae W (fz W s₁.heap []) [Value.ref 155] [.list (xs.map .int)]:=
  .cons (.list (vs:=vs) (ep:=0) (bx.mpr ⟨hobj,g2.notin hobj (λvs q=>by cases q),by simp⟩) hlen (kC _ _ hI)) .nil
 have hA:cf 61 callerA:=⟨rfl,by decide,by decide⟩
 have hM:W.M=model po w:=congrArg Wd.M eW
 refine hM ▸ wpAny_mono (JU H' (A:=callerA) (μ:=[]) (r:= .bool true) rfl hA g2 (λb hb=>by cases hb) hds (yN H' xs)) (λv s' hv=>?_) λ_ _ q=>q.elim
 obtain ⟨dv,gr⟩:=hv
 cases dv
 have gi':=gr.gi g2
 refine ⟨.inl ⟨_,_,_,rfl,?_,.bool true,?_,?_⟩,BQ gi BG.t1 BG.t2 (eW ▸ gr),gr.os,gi'.bare⟩
 ·intro cls;rfl
 ·show (WShape.has [] (.bool true) .bool&&WTm.holds [] (.eq .res (.lit (.bool true))) { args:=[ofPy (PyData.list (List.map PyData.int xs))],res:=some (.bool true),after:=[ofPy (PyData.list (List.map PyData.int xs))] })=true
  rw [Bool.and_eq_true]
  exact ⟨by first | decide +kernel | simp [WShape.has,WShape.arms],by unfold WTm.holds;rw [w_eq_bool (k:=true) (l:=true) (w_res rfl) w_lit];rfl⟩
 ·exact λ_=>⟨List.nodup_nil,λa ha=>by cases ha⟩
end
end Mine.Internal
set_option hygiene true
set_option tactic.hygienic true
open Mine.Internal PySem.W.X
set_option maxHeartbeats 8000000 in
theorem PySem.Challenge.cw_xh0027_02_holds : PySem.Challenge.rw_xh0027_02.Holds := by
 w_on
 refine holds_law (by decide +kernel) λsaid=>?_
 refine holds_openX (q:=s8) (d:=Jx) (kwd:=[]) (loose:=sr) (Xt:=λs=>xlAt s8 [] s&&recOk PySem.Challenge.rw_xh0027_02.row.toRowW.records s) (XP:=XL s8 []) (Yf:=uz) (Ya:=uZ) (N:=1756) yd (λs e=>xl_of s (Bool.and_eq_true_iff.mp e).1) XL.keeps (by rfl) (by rfl) (by rfl) (λs e=>recFacts_of (Bool.and_eq_true_iff.mp e).2) (by rfl) said (by decide +kernel) ⟨rfl,rfl,rfl,rfl,rfl,by decide +kernel⟩ ?hw ?hc
 case hw=>w_witness2
 exact λw s₀ s₁ mg mb G Y fa o pm cd doc dV kV _ _ _ _ hmg hg args vals as L hpre hlay hrd hwl hlo=>BF yM w s₀ s₁ mg mb G Y fa hmg hg args vals as L hpre hlay hrd hwl hlo
