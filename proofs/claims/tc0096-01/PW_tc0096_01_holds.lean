import PyProof.Rows.All
import Wide.All
import OpenK.AllK
import Wide.FinOn
import Lean
import PySem.Challenge.RW_tc0096_01
open PySem PySem.W PyProof.Rows PySem.Spec PySem.Calls
set_option maxRecDepth 100000
set_option maxHeartbeats 4000000
set_option Elab.async false
set_option linter.unusedVariables false
set_option genInjectivity false
set_option genSizeOf false
set_option compiler.extract_closed false
noncomputable section
section
namespace Mine
noncomputable def ak (i:Nat):Stmt:=(PySem.Challenge.pw_tc0096_01.main.body[i]?).getD (.Pass default)
noncomputable abbrev aB (es:List DictEntry):Obj:={ cls:=.type "dict",data:=.dict es.toArray es.length }
noncomputable def ly:Nat→List (Int×Str)→List DictEntry
 | _,[]=>[]
 | n,x::r=>⟨x.1,.int x.1 n,.str x.2 (n + 1)⟩::ly (n + 3) r
noncomputable def lz:Nat→List (Int×Str)→List DictEntry
 | _,[]=>[]
 | n,x::r=>⟨x.1,.int x.1 n,.str x.2 (n + 1)⟩::lz (n + 2) r
noncomputable def gi (n:Nat) (R:List (Int×Str)):List DictEntry:=if R.length≤15 then lz n R else ly n R
noncomputable abbrev eg:=Option (List DictEntry×List Obj)
noncomputable def flS (n:Nat) (R:List (Int×Str)):eg→eg
 | none=>some (gi n R,[])
 | some x=>some (x.1++gi n R,x.2++[aB (gi n R)])
noncomputable def bz:List (Int×Str)→List (Int×Str)→Nat→eg→eg×Nat×List (Int×Str)
 | [],R,n,M=>(M,n,R)
 | x::L,R,n,M=>if (R.length + 1==17)=true then bz L [] (n + 3 * (R.length + 1)) (flS n (R++[x]) M) else bz L (R++[x]) n M
noncomputable def rN (L:List (Int×Str)) (n:Nat):eg:=if (bz L [] n none).2.2.isEmpty=true then (bz L [] n none).1 else flS (bz L [] n none).2.1 (bz L [] n none).2.2 (bz L [] n none).1
noncomputable abbrev DI:=(Int×Str)×(Nat×Pos)×Nat×Pos
noncomputable def HL:List (Option PySem.Expr)×List PySem.Expr:=match ak 19 with
 | .Assign _ (.Dict ks vs _) _=>(ks,vs)
 | _=>([],[])
noncomputable def cOf (e:PySem.Expr):Const×Nat×Pos:=match e with
 | .Constant c k p=>(c,k,p)
 | _=>(.none,0,default)
noncomputable def iOf (c:Const):Int:=match c with
 | .int i=>i
 | _=>0
noncomputable def sOf (c:Const):Str:=match c with
 | .str s=>s
 | _=>default
noncomputable def b3D:List DI:=(HL.1.zip HL.2).map fun x=>((iOf (cOf (x.1.getD x.2)).1,sOf (cOf x.2).1),(cOf (x.1.getD x.2)).2,(cOf x.2).2)
noncomputable def b3L:List (Int×Str):=b3D.map (·.1)
noncomputable def b3x:List DictEntry×List Obj:=(rN b3L 499).getD ([],[])
noncomputable def b3s (i:Nat):Obj:=b3x.2.getD i (aB [])
noncomputable abbrev en (P:Params) (s:String) (t:Tok) (v:Value):DictEntry:=⟨PyData.keyHash P (.ofString s),.str (.ofString s) t,v⟩
noncomputable abbrev vS (s:String) (t:Tok):Value:=.str (.ofString s) t
noncomputable abbrev tP (a:Array Value):Obj:=⟨.type "tuple",none,.seq a 0,#[]⟩
noncomputable abbrev cD (a b:String) (n:Nat) (r:List Value):Obj:=⟨.type "code",none,.fields (List.toArray (vS a n::vS b (n + 1)::vS "/claim/cut.py" (n + 2)::r)),#[]⟩
noncomputable abbrev fO (n q:String) (P:Arguments) (B:List Stmt) (S:Scope) (d k c:Value) (m:String) (t:Tok) (a:Addr):Obj:=⟨.type "function",none,.func (fnOf (.ofString n) (.ofString q) P B S d k c (.str (.ofString m) t) none (.ref a) .none),#[]⟩
noncomputable abbrev fR (n q:String) (P:Arguments) (B:List Stmt) (S:Scope):Obj:=⟨.none,none,.func { name:=.ofString n,qualname:=.ofString q,params:=P,body:=.stmts B,scope:=S,globals:=0,closure:=[],defaults:=.none,kwdefaults:=.none,doc:=.none,pyModule:=.none,annotations:=none,code:=.none,closureTuple:=.none,builtins:=0 },#[]⟩
theorem apR {α:Type} {a:α} {s t:List α} (h:a∈t):a∈s++t:=List.mem_append_right _ h
theorem apL {α:Type} {a:α} {s t:List α} (h:a∈s):a∈s++t:=List.mem_append_left _ h
theorem cnX {α:Type} {a b:α} {l:List α} (h:a∈b::l):a=b∨a∈l:=List.mem_cons.mp h
theorem apX {α:Type} {a:α} {s t:List α} (h:a∈s++t):a∈s∨a∈t:=List.mem_append.mp h
theorem sgX {α:Type} {a b:α} (h:a∈[b]):a=b:=List.mem_singleton.mp h
theorem aD {a b:Nat} (h:Nat.ble a b=true):a≤b:=Nat.le_of_ble_eq_true h
end Mine
end
section
namespace Mine
set_option maxHeartbeats 8000000
theorem wr1:sreFenced PySem.Challenge.rw_tc0096_01.row.prog.main=true:=by kernel_rfl
theorem wr2:((moduleNames PySem.Challenge.rw_tc0096_01.row.prog.main.body).isEmpty || lookedIntoSs (moduleNames PySem.Challenge.rw_tc0096_01.row.prog.main.body) PySem.Challenge.rw_tc0096_01.row.prog.main.body)=true:=by kernel_rfl
theorem wr3:namesResolve PySem.Challenge.rw_tc0096_01.row.prog=true:=by kernel_rfl
theorem wr4:noRoadLSs { strict := !(importedModules PySem.Challenge.rw_tc0096_01.row.prog.main.body).all cThrough.contains,foot:=none,bare:=(["vars","dir","locals"]:List Str).filter (readsOut PySem.Challenge.rw_tc0096_01.row.prog PySem.Challenge.rw_tc0096_01.row.prog.main.body) } PySem.Challenge.rw_tc0096_01.row.prog.main.body=true:=by kernel_rfl
theorem wr5:(namesMeet PySem.Challenge.rw_tc0096_01.row.prog PySem.Challenge.rw_tc0096_01.row.prog.main.body fun _ n=>attrL n)=true:=by kernel_rfl
theorem HM:PySem.Challenge.rw_tc0096_01.row.wellSaid=true:=by
 unfold OpenRow.wellSaid OpenRow.partSaid looksOpen
 repeat' (with_reducible refine look_both ?_ ?_)
 all_goals first | with_reducible exact wr1 | with_reducible exact wr2 | with_reducible exact wr3 | with_reducible exact wr4 | with_reducible exact wr5 | kernel_rfl
theorem well:PySem.Challenge.rw_tc0096_01.wellSaid=true:=by
 unfold OpenLaw.wellSaid
 repeat' (with_reducible refine look_both ?_ ?_)
 all_goals first | (with_reducible exact HM) | kernel_rfl
end Mine
end
section
namespace Mine
noncomputable def clsB:List Stmt:=by refine (fun (_:ak 26=.ClassDef ?a ?b ?c ?y ?d ?e ?f ?g ?h ?i ?j)=>?y) ?hh;case hh=>(conv=>lhs;whnf)
noncomputable def uK:Arguments:=by refine (fun (_:ak 1=.FunctionDef ?a ?y ?b ?c ?d ?e ?f ?g ?h ?i)=>?y) ?hh;case hh=>(conv=>lhs;whnf)
noncomputable def uL:List Stmt:=by refine (fun (_:ak 1=.FunctionDef ?a ?b ?y ?c ?d ?e ?f ?g ?h ?i)=>?y) ?hh;case hh=>(conv=>lhs;whnf)
noncomputable def uM:Scope:=by refine (fun (_:ak 1=.FunctionDef ?a ?b ?c ?d ?e ?f ?y ?g ?h ?i)=>?y) ?hh;case hh=>(conv=>lhs;whnf)
noncomputable def gj:Arguments:=by refine (fun (_:ak 3=.FunctionDef ?a ?y ?b ?c ?d ?e ?f ?g ?h ?i)=>?y) ?hh;case hh=>(conv=>lhs;whnf)
noncomputable def gk:List Stmt:=by refine (fun (_:ak 3=.FunctionDef ?a ?b ?y ?c ?d ?e ?f ?g ?h ?i)=>?y) ?hh;case hh=>(conv=>lhs;whnf)
noncomputable def gm:Scope:=by refine (fun (_:ak 3=.FunctionDef ?a ?b ?c ?d ?e ?f ?y ?g ?h ?i)=>?y) ?hh;case hh=>(conv=>lhs;whnf)
noncomputable def cj:Arguments:=by refine (fun (_:ak 4=.FunctionDef ?a ?y ?b ?c ?d ?e ?f ?g ?h ?i)=>?y) ?hh;case hh=>(conv=>lhs;whnf)
noncomputable def ck:List Stmt:=by refine (fun (_:ak 4=.FunctionDef ?a ?b ?y ?c ?d ?e ?f ?g ?h ?i)=>?y) ?hh;case hh=>(conv=>lhs;whnf)
noncomputable def cp:Scope:=by refine (fun (_:ak 4=.FunctionDef ?a ?b ?c ?d ?e ?f ?y ?g ?h ?i)=>?y) ?hh;case hh=>(conv=>lhs;whnf)
noncomputable def iy:Arguments:=by refine (fun (_:ak 5=.FunctionDef ?a ?y ?b ?c ?d ?e ?f ?g ?h ?i)=>?y) ?hh;case hh=>(conv=>lhs;whnf)
noncomputable def iz:List Stmt:=by refine (fun (_:ak 5=.FunctionDef ?a ?b ?y ?c ?d ?e ?f ?g ?h ?i)=>?y) ?hh;case hh=>(conv=>lhs;whnf)
noncomputable def iA:Scope:=by refine (fun (_:ak 5=.FunctionDef ?a ?b ?c ?d ?e ?f ?y ?g ?h ?i)=>?y) ?hh;case hh=>(conv=>lhs;whnf)
noncomputable def cY:Arguments:=by refine (fun (_:ak 6=.FunctionDef ?a ?y ?b ?c ?d ?e ?f ?g ?h ?i)=>?y) ?hh;case hh=>(conv=>lhs;whnf)
noncomputable def cZ:List Stmt:=by refine (fun (_:ak 6=.FunctionDef ?a ?b ?y ?c ?d ?e ?f ?g ?h ?i)=>?y) ?hh;case hh=>(conv=>lhs;whnf)
noncomputable def c0:Scope:=by refine (fun (_:ak 6=.FunctionDef ?a ?b ?c ?d ?e ?f ?y ?g ?h ?i)=>?y) ?hh;case hh=>(conv=>lhs;whnf)
noncomputable def i7:Arguments:=by refine (fun (_:ak 11=.FunctionDef ?a ?y ?b ?c ?d ?e ?f ?g ?h ?i)=>?y) ?hh;case hh=>(conv=>lhs;whnf)
noncomputable def i8:List Stmt:=by refine (fun (_:ak 11=.FunctionDef ?a ?b ?y ?c ?d ?e ?f ?g ?h ?i)=>?y) ?hh;case hh=>(conv=>lhs;whnf)
noncomputable def i9:Scope:=by refine (fun (_:ak 11=.FunctionDef ?a ?b ?c ?d ?e ?f ?y ?g ?h ?i)=>?y) ?hh;case hh=>(conv=>lhs;whnf)
noncomputable def jc:Arguments:=by refine (fun (_:ak 12=.FunctionDef ?a ?y ?b ?c ?d ?e ?f ?g ?h ?i)=>?y) ?hh;case hh=>(conv=>lhs;whnf)
noncomputable def jd:List Stmt:=by refine (fun (_:ak 12=.FunctionDef ?a ?b ?y ?c ?d ?e ?f ?g ?h ?i)=>?y) ?hh;case hh=>(conv=>lhs;whnf)
noncomputable def je:Scope:=by refine (fun (_:ak 12=.FunctionDef ?a ?b ?c ?d ?e ?f ?y ?g ?h ?i)=>?y) ?hh;case hh=>(conv=>lhs;whnf)
noncomputable def HN:Arguments:=by refine (fun (_:ak 13=.FunctionDef ?a ?y ?b ?c ?d ?e ?f ?g ?h ?i)=>?y) ?hh;case hh=>(conv=>lhs;whnf)
noncomputable def HO:List Stmt:=by refine (fun (_:ak 13=.FunctionDef ?a ?b ?y ?c ?d ?e ?f ?g ?h ?i)=>?y) ?hh;case hh=>(conv=>lhs;whnf)
noncomputable def HP:Scope:=by refine (fun (_:ak 13=.FunctionDef ?a ?b ?c ?d ?e ?f ?y ?g ?h ?i)=>?y) ?hh;case hh=>(conv=>lhs;whnf)
noncomputable def jf:Arguments:=by refine (fun (_:ak 14=.FunctionDef ?a ?y ?b ?c ?d ?e ?f ?g ?h ?i)=>?y) ?hh;case hh=>(conv=>lhs;whnf)
noncomputable def jg:List Stmt:=by refine (fun (_:ak 14=.FunctionDef ?a ?b ?y ?c ?d ?e ?f ?g ?h ?i)=>?y) ?hh;case hh=>(conv=>lhs;whnf)
noncomputable def jh:Scope:=by refine (fun (_:ak 14=.FunctionDef ?a ?b ?c ?d ?e ?f ?y ?g ?h ?i)=>?y) ?hh;case hh=>(conv=>lhs;whnf)
noncomputable def ji:Arguments:=by refine (fun (_:ak 15=.FunctionDef ?a ?y ?b ?c ?d ?e ?f ?g ?h ?i)=>?y) ?hh;case hh=>(conv=>lhs;whnf)
noncomputable def jj:List Stmt:=by refine (fun (_:ak 15=.FunctionDef ?a ?b ?y ?c ?d ?e ?f ?g ?h ?i)=>?y) ?hh;case hh=>(conv=>lhs;whnf)
noncomputable def jk:Scope:=by refine (fun (_:ak 15=.FunctionDef ?a ?b ?c ?d ?e ?f ?y ?g ?h ?i)=>?y) ?hh;case hh=>(conv=>lhs;whnf)
noncomputable def iB:Arguments:=by refine (fun (_:ak 18=.FunctionDef ?a ?y ?b ?c ?d ?e ?f ?g ?h ?i)=>?y) ?hh;case hh=>(conv=>lhs;whnf)
noncomputable def iC:List Stmt:=by refine (fun (_:ak 18=.FunctionDef ?a ?b ?y ?c ?d ?e ?f ?g ?h ?i)=>?y) ?hh;case hh=>(conv=>lhs;whnf)
noncomputable def iD:Scope:=by refine (fun (_:ak 18=.FunctionDef ?a ?b ?c ?d ?e ?f ?y ?g ?h ?i)=>?y) ?hh;case hh=>(conv=>lhs;whnf)
noncomputable def gn:Arguments:=by refine (fun (_:ak 20=.FunctionDef ?a ?y ?b ?c ?d ?e ?f ?g ?h ?i)=>?y) ?hh;case hh=>(conv=>lhs;whnf)
noncomputable def gp:List Stmt:=by refine (fun (_:ak 20=.FunctionDef ?a ?b ?y ?c ?d ?e ?f ?g ?h ?i)=>?y) ?hh;case hh=>(conv=>lhs;whnf)
noncomputable def gq:Scope:=by refine (fun (_:ak 20=.FunctionDef ?a ?b ?c ?d ?e ?f ?y ?g ?h ?i)=>?y) ?hh;case hh=>(conv=>lhs;whnf)
noncomputable def gs:Arguments:=by refine (fun (_:ak 25=.FunctionDef ?a ?y ?b ?c ?d ?e ?f ?g ?h ?i)=>?y) ?hh;case hh=>(conv=>lhs;whnf)
noncomputable def gu:List Stmt:=by refine (fun (_:ak 25=.FunctionDef ?a ?b ?y ?c ?d ?e ?f ?g ?h ?i)=>?y) ?hh;case hh=>(conv=>lhs;whnf)
noncomputable def gv:Scope:=by refine (fun (_:ak 25=.FunctionDef ?a ?b ?c ?d ?e ?f ?y ?g ?h ?i)=>?y) ?hh;case hh=>(conv=>lhs;whnf)
noncomputable def c7:Arguments:=by refine (fun (_:clsB.getD 0 (.Pass default)=.FunctionDef ?a ?y ?b ?c ?d ?e ?f ?g ?h ?i)=>?y) ?hh;case hh=>(conv=>lhs;whnf)
noncomputable def c8:List Stmt:=by refine (fun (_:clsB.getD 0 (.Pass default)=.FunctionDef ?a ?b ?y ?c ?d ?e ?f ?g ?h ?i)=>?y) ?hh;case hh=>(conv=>lhs;whnf)
noncomputable def c9:Scope:=by refine (fun (_:clsB.getD 0 (.Pass default)=.FunctionDef ?a ?b ?c ?d ?e ?f ?y ?g ?h ?i)=>?y) ?hh;case hh=>(conv=>lhs;whnf)
noncomputable def aX:Arguments:=by refine (fun (_:clsB.getD 1 (.Pass default)=.FunctionDef ?a ?y ?b ?c ?d ?e ?f ?g ?h ?i)=>?y) ?hh;case hh=>(conv=>lhs;whnf)
noncomputable def aY:List Stmt:=by refine (fun (_:clsB.getD 1 (.Pass default)=.FunctionDef ?a ?b ?y ?c ?d ?e ?f ?g ?h ?i)=>?y) ?hh;case hh=>(conv=>lhs;whnf)
noncomputable def aZ:Scope:=by refine (fun (_:clsB.getD 1 (.Pass default)=.FunctionDef ?a ?b ?c ?d ?e ?f ?y ?g ?h ?i)=>?y) ?hh;case hh=>(conv=>lhs;whnf)
noncomputable def dr:Arguments:=by refine (fun (_:clsB.getD 2 (.Pass default)=.FunctionDef ?a ?y ?b ?c ?d ?e ?f ?g ?h ?i)=>?y) ?hh;case hh=>(conv=>lhs;whnf)
noncomputable def dt:List Stmt:=by refine (fun (_:clsB.getD 2 (.Pass default)=.FunctionDef ?a ?b ?y ?c ?d ?e ?f ?g ?h ?i)=>?y) ?hh;case hh=>(conv=>lhs;whnf)
noncomputable def du:Scope:=by refine (fun (_:clsB.getD 2 (.Pass default)=.FunctionDef ?a ?b ?c ?d ?e ?f ?y ?g ?h ?i)=>?y) ?hh;case hh=>(conv=>lhs;whnf)
noncomputable def bV:Arguments:=by refine (fun (_:clsB.getD 3 (.Pass default)=.FunctionDef ?a ?y ?b ?c ?d ?e ?f ?g ?h ?i)=>?y) ?hh;case hh=>(conv=>lhs;whnf)
noncomputable def bW:List Stmt:=by refine (fun (_:clsB.getD 3 (.Pass default)=.FunctionDef ?a ?b ?y ?c ?d ?e ?f ?g ?h ?i)=>?y) ?hh;case hh=>(conv=>lhs;whnf)
noncomputable def bX:Scope:=by refine (fun (_:clsB.getD 3 (.Pass default)=.FunctionDef ?a ?b ?c ?d ?e ?f ?y ?g ?h ?i)=>?y) ?hh;case hh=>(conv=>lhs;whnf)
noncomputable def bY:Arguments:=by refine (fun (_:clsB.getD 4 (.Pass default)=.FunctionDef ?a ?y ?b ?c ?d ?e ?f ?g ?h ?i)=>?y) ?hh;case hh=>(conv=>lhs;whnf)
noncomputable def bZ:List Stmt:=by refine (fun (_:clsB.getD 4 (.Pass default)=.FunctionDef ?a ?b ?y ?c ?d ?e ?f ?g ?h ?i)=>?y) ?hh;case hh=>(conv=>lhs;whnf)
noncomputable def b0:Scope:=by refine (fun (_:clsB.getD 4 (.Pass default)=.FunctionDef ?a ?b ?c ?d ?e ?f ?y ?g ?h ?i)=>?y) ?hh;case hh=>(conv=>lhs;whnf)
noncomputable def b7:Arguments:=by refine (fun (_:clsB.getD 5 (.Pass default)=.FunctionDef ?a ?y ?b ?c ?d ?e ?f ?g ?h ?i)=>?y) ?hh;case hh=>(conv=>lhs;whnf)
noncomputable def b8:List Stmt:=by refine (fun (_:clsB.getD 5 (.Pass default)=.FunctionDef ?a ?b ?y ?c ?d ?e ?f ?g ?h ?i)=>?y) ?hh;case hh=>(conv=>lhs;whnf)
noncomputable def b9:Scope:=by refine (fun (_:clsB.getD 5 (.Pass default)=.FunctionDef ?a ?b ?c ?d ?e ?f ?y ?g ?h ?i)=>?y) ?hh;case hh=>(conv=>lhs;whnf)
noncomputable def bK:Arguments:=by refine (fun (_:clsB.getD 6 (.Pass default)=.FunctionDef ?a ?y ?b ?c ?d ?e ?f ?g ?h ?i)=>?y) ?hh;case hh=>(conv=>lhs;whnf)
noncomputable def bL:List Stmt:=by refine (fun (_:clsB.getD 6 (.Pass default)=.FunctionDef ?a ?b ?y ?c ?d ?e ?f ?g ?h ?i)=>?y) ?hh;case hh=>(conv=>lhs;whnf)
noncomputable def bM:Scope:=by refine (fun (_:clsB.getD 6 (.Pass default)=.FunctionDef ?a ?b ?c ?d ?e ?f ?y ?g ?h ?i)=>?y) ?hh;case hh=>(conv=>lhs;whnf)
noncomputable def dv:Arguments:=by refine (fun (_:clsB.getD 7 (.Pass default)=.FunctionDef ?a ?y ?b ?c ?d ?e ?f ?g ?h ?i)=>?y) ?hh;case hh=>(conv=>lhs;whnf)
noncomputable def dw:List Stmt:=by refine (fun (_:clsB.getD 7 (.Pass default)=.FunctionDef ?a ?b ?y ?c ?d ?e ?f ?g ?h ?i)=>?y) ?hh;case hh=>(conv=>lhs;whnf)
noncomputable def dx:Scope:=by refine (fun (_:clsB.getD 7 (.Pass default)=.FunctionDef ?a ?b ?c ?d ?e ?f ?y ?g ?h ?i)=>?y) ?hh;case hh=>(conv=>lhs;whnf)
noncomputable def gc:Arguments:=by refine (fun (_:clsB.getD 8 (.Pass default)=.FunctionDef ?a ?y ?b ?c ?d ?e ?f ?g ?h ?i)=>?y) ?hh;case hh=>(conv=>lhs;whnf)
noncomputable def gf:List Stmt:=by refine (fun (_:clsB.getD 8 (.Pass default)=.FunctionDef ?a ?b ?y ?c ?d ?e ?f ?g ?h ?i)=>?y) ?hh;case hh=>(conv=>lhs;whnf)
noncomputable def gg:Scope:=by refine (fun (_:clsB.getD 8 (.Pass default)=.FunctionDef ?a ?b ?c ?d ?e ?f ?y ?g ?h ?i)=>?y) ?hh;case hh=>(conv=>lhs;whnf)
noncomputable def eX:Arguments:=by refine (fun (_:clsB.getD 9 (.Pass default)=.FunctionDef ?a ?y ?b ?c ?d ?e ?f ?g ?h ?i)=>?y) ?hh;case hh=>(conv=>lhs;whnf)
noncomputable def eY:List Stmt:=by refine (fun (_:clsB.getD 9 (.Pass default)=.FunctionDef ?a ?b ?y ?c ?d ?e ?f ?g ?h ?i)=>?y) ?hh;case hh=>(conv=>lhs;whnf)
noncomputable def eZ:Scope:=by refine (fun (_:clsB.getD 9 (.Pass default)=.FunctionDef ?a ?b ?c ?d ?e ?f ?y ?g ?h ?i)=>?y) ?hh;case hh=>(conv=>lhs;whnf)
noncomputable def dO:Arguments:=by refine (fun (_:clsB.getD 10 (.Pass default)=.FunctionDef ?a ?y ?b ?c ?d ?e ?f ?g ?h ?i)=>?y) ?hh;case hh=>(conv=>lhs;whnf)
noncomputable def dP:List Stmt:=by refine (fun (_:clsB.getD 10 (.Pass default)=.FunctionDef ?a ?b ?y ?c ?d ?e ?f ?g ?h ?i)=>?y) ?hh;case hh=>(conv=>lhs;whnf)
noncomputable def dQ:Scope:=by refine (fun (_:clsB.getD 10 (.Pass default)=.FunctionDef ?a ?b ?c ?d ?e ?f ?y ?g ?h ?i)=>?y) ?hh;case hh=>(conv=>lhs;whnf)
noncomputable def eh:Arguments:=by refine (fun (_:clsB.getD 11 (.Pass default)=.FunctionDef ?a ?y ?b ?c ?d ?e ?f ?g ?h ?i)=>?y) ?hh;case hh=>(conv=>lhs;whnf)
noncomputable def ei:List Stmt:=by refine (fun (_:clsB.getD 11 (.Pass default)=.FunctionDef ?a ?b ?y ?c ?d ?e ?f ?g ?h ?i)=>?y) ?hh;case hh=>(conv=>lhs;whnf)
noncomputable def ej:Scope:=by refine (fun (_:clsB.getD 11 (.Pass default)=.FunctionDef ?a ?b ?c ?d ?e ?f ?y ?g ?h ?i)=>?y) ?hh;case hh=>(conv=>lhs;whnf)
noncomputable def dd:Arguments:=by refine (fun (_:clsB.getD 12 (.Pass default)=.FunctionDef ?a ?y ?b ?c ?d ?e ?f ?g ?h ?i)=>?y) ?hh;case hh=>(conv=>lhs;whnf)
noncomputable def de:List Stmt:=by refine (fun (_:clsB.getD 12 (.Pass default)=.FunctionDef ?a ?b ?y ?c ?d ?e ?f ?g ?h ?i)=>?y) ?hh;case hh=>(conv=>lhs;whnf)
noncomputable def df:Scope:=by refine (fun (_:clsB.getD 12 (.Pass default)=.FunctionDef ?a ?b ?c ?d ?e ?f ?y ?g ?h ?i)=>?y) ?hh;case hh=>(conv=>lhs;whnf)
noncomputable def dy:Arguments:=by refine (fun (_:clsB.getD 13 (.Pass default)=.FunctionDef ?a ?y ?b ?c ?d ?e ?f ?g ?h ?i)=>?y) ?hh;case hh=>(conv=>lhs;whnf)
noncomputable def dz:List Stmt:=by refine (fun (_:clsB.getD 13 (.Pass default)=.FunctionDef ?a ?b ?y ?c ?d ?e ?f ?g ?h ?i)=>?y) ?hh;case hh=>(conv=>lhs;whnf)
noncomputable def dA:Scope:=by refine (fun (_:clsB.getD 13 (.Pass default)=.FunctionDef ?a ?b ?c ?d ?e ?f ?y ?g ?h ?i)=>?y) ?hh;case hh=>(conv=>lhs;whnf)
noncomputable def cI:Arguments:=by refine (fun (_:clsB.getD 14 (.Pass default)=.FunctionDef ?a ?y ?b ?c ?d ?e ?f ?g ?h ?i)=>?y) ?hh;case hh=>(conv=>lhs;whnf)
noncomputable def cJ:List Stmt:=by refine (fun (_:clsB.getD 14 (.Pass default)=.FunctionDef ?a ?b ?y ?c ?d ?e ?f ?g ?h ?i)=>?y) ?hh;case hh=>(conv=>lhs;whnf)
noncomputable def cK:Scope:=by refine (fun (_:clsB.getD 14 (.Pass default)=.FunctionDef ?a ?b ?c ?d ?e ?f ?y ?g ?h ?i)=>?y) ?hh;case hh=>(conv=>lhs;whnf)
noncomputable def cq:Arguments:=by refine (fun (_:clsB.getD 15 (.Pass default)=.FunctionDef ?a ?y ?b ?c ?d ?e ?f ?g ?h ?i)=>?y) ?hh;case hh=>(conv=>lhs;whnf)
noncomputable def cu:List Stmt:=by refine (fun (_:clsB.getD 15 (.Pass default)=.FunctionDef ?a ?b ?y ?c ?d ?e ?f ?g ?h ?i)=>?y) ?hh;case hh=>(conv=>lhs;whnf)
noncomputable def cv:Scope:=by refine (fun (_:clsB.getD 15 (.Pass default)=.FunctionDef ?a ?b ?c ?d ?e ?f ?y ?g ?h ?i)=>?y) ?hh;case hh=>(conv=>lhs;whnf)
noncomputable def cw:Arguments:=by refine (fun (_:clsB.getD 16 (.Pass default)=.FunctionDef ?a ?y ?b ?c ?d ?e ?f ?g ?h ?i)=>?y) ?hh;case hh=>(conv=>lhs;whnf)
noncomputable def cx:List Stmt:=by refine (fun (_:clsB.getD 16 (.Pass default)=.FunctionDef ?a ?b ?y ?c ?d ?e ?f ?g ?h ?i)=>?y) ?hh;case hh=>(conv=>lhs;whnf)
noncomputable def cy:Scope:=by refine (fun (_:clsB.getD 16 (.Pass default)=.FunctionDef ?a ?b ?c ?d ?e ?f ?y ?g ?h ?i)=>?y) ?hh;case hh=>(conv=>lhs;whnf)
noncomputable def jl:Arguments:=by refine (fun (_:ak 28=.FunctionDef ?a ?y ?b ?c ?d ?e ?f ?g ?h ?i)=>?y) ?hh;case hh=>(conv=>lhs;whnf)
noncomputable def jm:List Stmt:=by refine (fun (_:ak 28=.FunctionDef ?a ?b ?y ?c ?d ?e ?f ?g ?h ?i)=>?y) ?hh;case hh=>(conv=>lhs;whnf)
noncomputable def jn:Scope:=by refine (fun (_:ak 28=.FunctionDef ?a ?b ?c ?d ?e ?f ?y ?g ?h ?i)=>?y) ?hh;case hh=>(conv=>lhs;whnf)
noncomputable def jo:Arguments:=by refine (fun (_:ak 29=.FunctionDef ?a ?y ?b ?c ?d ?e ?f ?g ?h ?i)=>?y) ?hh;case hh=>(conv=>lhs;whnf)
noncomputable def jq:List Stmt:=by refine (fun (_:ak 29=.FunctionDef ?a ?b ?y ?c ?d ?e ?f ?g ?h ?i)=>?y) ?hh;case hh=>(conv=>lhs;whnf)
noncomputable def jr:Scope:=by refine (fun (_:ak 29=.FunctionDef ?a ?b ?c ?d ?e ?f ?y ?g ?h ?i)=>?y) ?hh;case hh=>(conv=>lhs;whnf)
noncomputable def js:Arguments:=by refine (fun (_:ak 30=.FunctionDef ?a ?y ?b ?c ?d ?e ?f ?g ?h ?i)=>?y) ?hh;case hh=>(conv=>lhs;whnf)
noncomputable def jt:List Stmt:=by refine (fun (_:ak 30=.FunctionDef ?a ?b ?y ?c ?d ?e ?f ?g ?h ?i)=>?y) ?hh;case hh=>(conv=>lhs;whnf)
noncomputable def ju:Scope:=by refine (fun (_:ak 30=.FunctionDef ?a ?b ?c ?d ?e ?f ?y ?g ?h ?i)=>?y) ?hh;case hh=>(conv=>lhs;whnf)
noncomputable def jv:Arguments:=by refine (fun (_:ak 31=.FunctionDef ?a ?y ?b ?c ?d ?e ?f ?g ?h ?i)=>?y) ?hh;case hh=>(conv=>lhs;whnf)
noncomputable def jw:List Stmt:=by refine (fun (_:ak 31=.FunctionDef ?a ?b ?y ?c ?d ?e ?f ?g ?h ?i)=>?y) ?hh;case hh=>(conv=>lhs;whnf)
noncomputable def S__law_masks:Scope:=by refine (fun (_:ak 31=.FunctionDef ?a ?b ?c ?d ?e ?f ?y ?g ?h ?i)=>?y) ?hh;case hh=>(conv=>lhs;whnf)
noncomputable def gw:Arguments:=by refine (fun (_:ak 32=.FunctionDef ?a ?y ?b ?c ?d ?e ?f ?g ?h ?i)=>?y) ?hh;case hh=>(conv=>lhs;whnf)
noncomputable def B__law_refused:List Stmt:=by refine (fun (_:ak 32=.FunctionDef ?a ?b ?y ?c ?d ?e ?f ?g ?h ?i)=>?y) ?hh;case hh=>(conv=>lhs;whnf)
noncomputable def aS:Scope:=by refine (fun (_:ak 32=.FunctionDef ?a ?b ?c ?d ?e ?f ?y ?g ?h ?i)=>?y) ?hh;case hh=>(conv=>lhs;whnf)
noncomputable def jx:Arguments:=by refine (fun (_:ak 33=.FunctionDef ?a ?y ?b ?c ?d ?e ?f ?g ?h ?i)=>?y) ?hh;case hh=>(conv=>lhs;whnf)
noncomputable def jy:List Stmt:=by refine (fun (_:ak 33=.FunctionDef ?a ?b ?y ?c ?d ?e ?f ?g ?h ?i)=>?y) ?hh;case hh=>(conv=>lhs;whnf)
noncomputable def S__law_steps:Scope:=by refine (fun (_:ak 33=.FunctionDef ?a ?b ?c ?d ?e ?f ?y ?g ?h ?i)=>?y) ?hh;case hh=>(conv=>lhs;whnf)
noncomputable def gy:Arguments:=by refine (fun (_:ak 34=.FunctionDef ?a ?y ?b ?c ?d ?e ?f ?g ?h ?i)=>?y) ?hh;case hh=>(conv=>lhs;whnf)
noncomputable def B__law_painted:List Stmt:=by refine (fun (_:ak 34=.FunctionDef ?a ?b ?y ?c ?d ?e ?f ?g ?h ?i)=>?y) ?hh;case hh=>(conv=>lhs;whnf)
noncomputable def S__law_painted:Scope:=by refine (fun (_:ak 34=.FunctionDef ?a ?b ?c ?d ?e ?f ?y ?g ?h ?i)=>?y) ?hh;case hh=>(conv=>lhs;whnf)
noncomputable def yx:Arguments:=by refine (fun (_:ak 35=.FunctionDef ?a ?y ?b ?c ?d ?e ?f ?g ?h ?i)=>?y) ?hh;case hh=>(conv=>lhs;whnf)
noncomputable def B_law:List Stmt:=by refine (fun (_:ak 35=.FunctionDef ?a ?b ?y ?c ?d ?e ?f ?g ?h ?i)=>?y) ?hh;case hh=>(conv=>lhs;whnf)
noncomputable def S_law:Scope:=by refine (fun (_:ak 35=.FunctionDef ?a ?b ?c ?d ?e ?f ?y ?g ?h ?i)=>?y) ?hh;case hh=>(conv=>lhs;whnf)
noncomputable def o_2 (P:Params):Obj:=⟨.none,none,(.dict #[en P "\x69mport.loaded._sre" 183 (.bool true),en P "class._frozen_importlib.BuiltinImporter" 185 (.ref 14),en P "watched.\x69mport" 206 (.ref 18),en P "class._frozen_importlib.ModuleSpec" 216 (.ref 22),en P "sys.modules.booked-epoch" 245 (.int 3 0),en P "\x69mport.later-laid._sre" 270 (.bool true),en P "watched.library" 272 (.ref 27),en P "watched.library-objects" 0 (.str (.mk #[12]) 0),en P "watched.library-deep._sre" 273 (.str (.mk #[4,0,0,11,4,0,0,11,4,0,0,3,4,0,0,11,8,4,100,105,99,116,2]) 0)] 9),#[]⟩
noncomputable def o_3 (P:Params):Obj:=⟨(.type "dict"),none,(.dict #[en P "__name__" 165 (vS "law_tc0096_01" 2721),en P "__doc__" 166 .none,en P "__package__" 167 .none,en P "__loader__" 168 (.builtin "__main__.__loader__#opaque"),en P "__spec__" 169 .none,en P "__annotations__" 170 (.ref 6),en P "__builtins__" 171 (.ref 4),en P "__file__" 173 (vS "/claim/cut.py" 172),en P "__cached__" 174 .none,en P "_sre" 275 (.ref 12),en P "_wall" 288 (.ref 38),en P "insort_right" 303 (.ref 47),en P "bisect_right" 317 (.ref 56),en P "insort_left" 330 (.ref 65),en P "bisect_left" 344 (.ref 74),en P "ONE_THIRD" 350 (.float 4599676419421066581 349),en P "ONE_SIXTH" 354 (.float 4595172819793696085 353),en P "TWO_THIRD" 358 (.float 4604180019048437077 357),en P "rgb_to_hls" 377 (.ref 81),en P "hls_to_rgb" 388 (.ref 88),en P "_v" 397 (.ref 95),en P "rgb_to_hsv" 415 (.ref 102),en P "hsv_to_rgb" 429 (.ref 109),en P "b1_set" 491 (.ref 117),en P "in_table_b1" 498 (.ref 127),en P "b3_exceptions" 2449 (.ref 128),en P "map_table_b3" 2457 (.ref 173),en P "tspecials" 2493 (.ref 178),en P "_name_disallowed_re" 2519 (.ref 183),en P "_value_disallowed_re" 2553 (.ref 188),en P "_formatparam" 2563 (.ref 196),en P "Headers" 2720 (.ref 317),en P "_law_cells" 2732 (.ref 328),en P "_law_typed" 2747 (.ref 335),en P "_law_grown" 2758 (.ref 342),en P "_law_masks" 2764 (.ref 347),en P "_law_refused" 2774 (.ref 354),en P "_law_steps" 2780 (.ref 359),en P "_law_painted" 2786 (.ref 364),en P "law" 2792 (.ref 369)] 40),#[]⟩
noncomputable def pO (P:Params):Obj:=tP #[]
noncomputable def pP (P:Params):Obj:=tP #[(vS "k" 285)]
noncomputable def pQ (P:Params):Obj:=tP #[]
noncomputable def pR (P:Params):Obj:=cD "_wall" "_wall" 282 [(.int 2 0),(.int 1 0),(.int 0 0),(.int 0 0),(.int 3 0),(.ref 32),(.bool true),(.int 276 0),(.ref 33),.none,(.ref 34),(.ref 35),(.ref 36),(.int 286 0),(.int 2 0),(vS "/claim/cut.py" 287)]
noncomputable def pS (P:Params):Obj:=fO "_wall" "_wall" uK uL uM .none .none .none "__main__" 164 37
noncomputable def pT (P:Params):Obj:=tP #[(.int 0 291),.none]
noncomputable def pU (P:Params):Obj:=⟨(.type "dict"),none,(.dict #[en P "key" 292 .none] 1),#[]⟩
noncomputable def pV (P:Params):Obj:=tP #[]
noncomputable def pW (P:Params):Obj:=tP #[(vS "a" 296),(vS "x" 297),(vS "lo" 298),(vS "hi" 299),(vS "key" 300)]
noncomputable def pX (P:Params):Obj:=tP #[]
noncomputable def pY (P:Params):Obj:=cD "insort_right" "insort_right" 293 [(.int 6 0),(.int 4 0),(.int 0 0),(.int 1 0),(.int 3 0),(.ref 41),(.bool true),(.int 276 0),(.ref 42),.none,(.ref 43),(.ref 44),(.ref 45),(.int 301 0),(.int 6 0),(vS "/claim/cut.py" 302)]
noncomputable def pZ (P:Params):Obj:=fO "insort_right" "insort_right" gj gk gm (.ref 39) (.ref 40) .none "cpy313.bisect" 289 46
noncomputable def qa (P:Params):Obj:=tP #[(.int 0 304),.none]
noncomputable def qb (P:Params):Obj:=⟨(.type "dict"),none,(.dict #[en P "key" 305 .none] 1),#[]⟩
noncomputable def qc (P:Params):Obj:=tP #[]
noncomputable def qd (P:Params):Obj:=tP #[(vS "a" 309),(vS "x" 310),(vS "lo" 311),(vS "hi" 312),(vS "key" 313),(vS "mid" 314)]
noncomputable def qe (P:Params):Obj:=tP #[]
noncomputable def qf (P:Params):Obj:=cD "bisect_right" "bisect_right" 306 [(.int 12 0),(.int 4 0),(.int 0 0),(.int 1 0),(.int 3 0),(.ref 50),(.bool true),(.int 276 0),(.ref 51),.none,(.ref 52),(.ref 53),(.ref 54),(.int 315 0),(.int 12 0),(vS "/claim/cut.py" 316)]
noncomputable def oa (P:Params):Obj:=fO "bisect_right" "bisect_right" cj ck cp (.ref 48) (.ref 49) .none "cpy313.bisect" 289 55
noncomputable def qg (P:Params):Obj:=tP #[(.int 0 318),.none]
noncomputable def qh (P:Params):Obj:=⟨(.type "dict"),none,(.dict #[en P "key" 319 .none] 1),#[]⟩
noncomputable def qi (P:Params):Obj:=tP #[]
noncomputable def qj (P:Params):Obj:=tP #[(vS "a" 323),(vS "x" 324),(vS "lo" 325),(vS "hi" 326),(vS "key" 327)]
noncomputable def qk (P:Params):Obj:=tP #[]
noncomputable def ql (P:Params):Obj:=cD "insort_left" "insort_left" 320 [(.int 32 0),(.int 4 0),(.int 0 0),(.int 1 0),(.int 3 0),(.ref 59),(.bool true),(.int 276 0),(.ref 60),.none,(.ref 61),(.ref 62),(.ref 63),(.int 328 0),(.int 32 0),(vS "/claim/cut.py" 329)]
noncomputable def qm (P:Params):Obj:=fO "insort_left" "insort_left" iy iz iA (.ref 57) (.ref 58) .none "cpy313.bisect" 289 64
noncomputable def qo (P:Params):Obj:=tP #[(.int 0 331),.none]
noncomputable def qp (P:Params):Obj:=⟨(.type "dict"),none,(.dict #[en P "key" 332 .none] 1),#[]⟩
noncomputable def qq (P:Params):Obj:=tP #[]
noncomputable def qr (P:Params):Obj:=tP #[(vS "a" 336),(vS "x" 337),(vS "lo" 338),(vS "hi" 339),(vS "key" 340),(vS "mid" 341)]
noncomputable def qt (P:Params):Obj:=tP #[]
noncomputable def qu (P:Params):Obj:=cD "bisect_left" "bisect_left" 333 [(.int 38 0),(.int 4 0),(.int 0 0),(.int 1 0),(.int 3 0),(.ref 68),(.bool true),(.int 276 0),(.ref 69),.none,(.ref 70),(.ref 71),(.ref 72),(.int 342 0),(.int 38 0),(vS "/claim/cut.py" 343)]
noncomputable def og (P:Params):Obj:=fO "bisect_left" "bisect_left" cY cZ c0 (.ref 66) (.ref 67) .none "cpy313.bisect" 289 73
noncomputable def qv (P:Params):Obj:=tP #[]
noncomputable def qw (P:Params):Obj:=tP #[(vS "r" 362),(vS "g" 363),(vS "b" 364),(vS "maxc" 365),(vS "minc" 366),(vS "sumc" 367),(vS "rangec" 368),(vS "l" 369),(vS "s" 370),(vS "rc" 371),(vS "gc" 372),(vS "bc" 373),(vS "h" 374)]
noncomputable def qx (P:Params):Obj:=tP #[]
noncomputable def qy (P:Params):Obj:=cD "rgb_to_hls" "rgb_to_hls" 359 [(.int 62 0),(.int 3 0),(.int 0 0),(.int 0 0),(.int 3 0),(.ref 75),(.bool true),(.int 276 0),(.ref 76),.none,(.ref 77),(.ref 78),(.ref 79),(.int 375 0),(.int 62 0),(vS "/claim/cut.py" 376)]
noncomputable def qz (P:Params):Obj:=fO "rgb_to_hls" "rgb_to_hls" i7 i8 i9 .none .none .none "cpy313.colorsys" 345 80
noncomputable def qA (P:Params):Obj:=tP #[]
noncomputable def qB (P:Params):Obj:=tP #[(vS "h" 381),(vS "l" 382),(vS "s" 383),(vS "m2" 384),(vS "m1" 385)]
noncomputable def qC (P:Params):Obj:=tP #[]
noncomputable def qD (P:Params):Obj:=cD "hls_to_rgb" "hls_to_rgb" 378 [(.int 85 0),(.int 3 0),(.int 0 0),(.int 0 0),(.int 3 0),(.ref 82),(.bool true),(.int 276 0),(.ref 83),.none,(.ref 84),(.ref 85),(.ref 86),(.int 386 0),(.int 85 0),(vS "/claim/cut.py" 387)]
noncomputable def qE (P:Params):Obj:=fO "hls_to_rgb" "hls_to_rgb" jc jd je .none .none .none "cpy313.colorsys" 345 87
noncomputable def qF (P:Params):Obj:=tP #[]
noncomputable def qG (P:Params):Obj:=tP #[(vS "m1" 392),(vS "m2" 393),(vS "hue" 394)]
noncomputable def qH (P:Params):Obj:=tP #[]
noncomputable def qI (P:Params):Obj:=cD "_v" "_v" 389 [(.int 94 0),(.int 3 0),(.int 0 0),(.int 0 0),(.int 3 0),(.ref 89),(.bool true),(.int 276 0),(.ref 90),.none,(.ref 91),(.ref 92),(.ref 93),(.int 395 0),(.int 94 0),(vS "/claim/cut.py" 396)]
noncomputable def qJ (P:Params):Obj:=fO "_v" "_v" HN HO HP .none .none .none "cpy313.colorsys" 345 94
noncomputable def qK (P:Params):Obj:=tP #[]
noncomputable def qL (P:Params):Obj:=tP #[(vS "r" 401),(vS "g" 402),(vS "b" 403),(vS "maxc" 404),(vS "minc" 405),(vS "rangec" 406),(vS "v" 407),(vS "s" 408),(vS "rc" 409),(vS "gc" 410),(vS "bc" 411),(vS "h" 412)]
noncomputable def qM (P:Params):Obj:=tP #[]
noncomputable def jz (P:Params):Obj:=cD "rgb_to_hsv" "rgb_to_hsv" 398 [(.int 103 0),(.int 3 0),(.int 0 0),(.int 0 0),(.int 3 0),(.ref 96),(.bool true),(.int 276 0),(.ref 97),.none,(.ref 98),(.ref 99),(.ref 100),(.int 413 0),(.int 103 0),(vS "/claim/cut.py" 414)]
noncomputable def jA (P:Params):Obj:=fO "rgb_to_hsv" "rgb_to_hsv" jf jg jh .none .none .none "cpy313.colorsys" 345 101
noncomputable def jB (P:Params):Obj:=tP #[]
noncomputable def jC (P:Params):Obj:=tP #[(vS "h" 419),(vS "s" 420),(vS "v" 421),(vS "i" 422),(vS "f" 423),(vS "p" 424),(vS "q" 425),(vS "t" 426)]
noncomputable def jD (P:Params):Obj:=tP #[]
noncomputable def jE (P:Params):Obj:=cD "hsv_to_rgb" "hsv_to_rgb" 416 [(.int 122 0),(.int 3 0),(.int 0 0),(.int 0 0),(.int 3 0),(.ref 103),(.bool true),(.int 276 0),(.ref 104),.none,(.ref 105),(.ref 106),(.ref 107),(.int 427 0),(.int 122 0),(vS "/claim/cut.py" 428)]
noncomputable def jF (P:Params):Obj:=fO "hsv_to_rgb" "hsv_to_rgb" ji jj jk .none .none .none "cpy313.colorsys" 345 108
noncomputable def iE (P:Params):Obj:=⟨(.type "set"),none,(.set #[(65024,(.int 65024 448)),(65025,(.int 65025 449)),(65026,(.int 65026 450)),(65027,(.int 65027 451)),(65028,(.int 65028 452)),(65029,(.int 65029 453)),(6150,(.int 6150 434)),(65030,(.int 65030 454)),(65031,(.int 65031 455)),(65032,(.int 65032 456)),(65033,(.int 65033 457)),(6155,(.int 6155 435)),(6156,(.int 6156 436)),(6157,(.int 6157 437)),(8203,(.int 8203 438)),(8204,(.int 8204 439)),(8205,(.int 8205 440)),(65034,(.int 65034 458)),(65035,(.int 65035 459)),(65036,(.int 65036 460)),(65037,(.int 65037 461)),(65038,(.int 65038 462)),(65039,(.int 65039 463)),(173,(.int 173 432)),(847,(.int 847 433)),(8288,(.int 8288 441)),(65279,(.int 65279 442))] 29 { mask:=127,place:=#[0,1,2,3,4,5,6,7,8,9,10,11,12,13,14,15,16,17,18,19,20,21,22,45,79,96,127],dummies:=#[],finger:=0,led := !P.followText "set-order",moves:=2,plain:=true }),#[]⟩
noncomputable def mA (P:Params):Obj:=tP #[]
noncomputable def mB (P:Params):Obj:=tP #[(vS "code" 495)]
noncomputable def mC (P:Params):Obj:=tP #[]
noncomputable def mF (P:Params):Obj:=cD "in_table_b1" "in_table_b1" 492 [(.int 145 0),(.int 1 0),(.int 0 0),(.int 0 0),(.int 3 0),(.ref 121),(.bool true),(.int 276 0),(.ref 122),.none,(.ref 123),(.ref 124),(.ref 125),(.int 496 0),(.int 145 0),(vS "/claim/cut.py" 497)]
noncomputable def mG (P:Params):Obj:=fO "in_table_b1" "in_table_b1" iB iC iD .none .none .none "cpy313.stringprep" 430 126
noncomputable def iF (P:Params):Obj:=aB b3x.1
noncomputable def uN (P:Params):Obj:=tP #[]
noncomputable def uO (P:Params):Obj:=tP #[(vS "code" 2453),(vS "r" 2454)]
noncomputable def uP (P:Params):Obj:=tP #[]
noncomputable def uQ (P:Params):Obj:=cD "map_table_b3" "map_table_b3" 2450 [(.int 148 0),(.int 1 0),(.int 0 0),(.int 0 0),(.int 3 0),(.ref 167),(.bool true),(.int 276 0),(.ref 168),.none,(.ref 169),(.ref 170),(.ref 171),(.int 2455 0),(.int 148 0),(vS "/claim/cut.py" 2456)]
noncomputable def uR (P:Params):Obj:=fO "map_table_b3" "map_table_b3" gn gp gq .none .none .none "cpy313.stringprep" 430 172
noncomputable def uS (P:Params):Obj:=tP #[(.int 14 0),(.int 14 0),(.int 4 0),(.int 1 0),(.int 1 0),(.int 9 0),(.int 0 0),(.int 4227896069 0),(.int 939524097 0),(.int 0 0),(.int 0 0),(.int 0 0),(.int 0 0),(.int 0 0),(.int 0 0),(.int 13 0),(.int 11 0),(.int 9 0),(.int 0 0),(.int 4227896069 0),(.int 939524097 0),(.int 0 0),(.int 0 0),(.int 0 0),(.int 0 0),(.int 0 0),(.int 0 0),(.int 1 0)]
noncomputable def uT (P:Params):Obj:=⟨(.type "re.Pattern"),none,(.fields #[(vS "[ \\(\\)<>@,;:\\\\\"/\\[\\]\\?=]" 2461),(.int 32 2492),(.int 0 0),.none,.none,(.ref 177),(.int 0 0)]),#[]⟩
noncomputable def mJ (P:Params):Obj:=tP #[(.int 14 0),(.int 10 0),(.int 4 0),(.int 1 0),(.int 1 0),(.int 22 0),(.int 0 0),(.int 31 0),(.int 16 0),(.int 127 0),(.int 0 0),(.int 13 0),(.int 7 0),(.int 22 0),(.int 0 0),(.int 31 0),(.int 16 0),(.int 127 0),(.int 0 0),(.int 1 0)]
noncomputable def uU (P:Params):Obj:=⟨(.type "re.Pattern"),none,(.fields #[(vS "[\\x00-\\x1F\\x7F]" 2495),(.int 32 2518),(.int 0 0),.none,.none,(.ref 182),(.int 0 0)]),#[]⟩
noncomputable def mK (P:Params):Obj:=tP #[(.int 14 0),(.int 14 0),(.int 4 0),(.int 1 0),(.int 1 0),(.int 9 0),(.int 4294966783 0),(.int 0 0),(.int 0 0),(.int 2147483648 0),(.int 0 0),(.int 0 0),(.int 0 0),(.int 0 0),(.int 0 0),(.int 13 0),(.int 11 0),(.int 9 0),(.int 4294966783 0),(.int 0 0),(.int 0 0),(.int 2147483648 0),(.int 0 0),(.int 0 0),(.int 0 0),(.int 0 0),(.int 0 0),(.int 1 0)]
noncomputable def uV (P:Params):Obj:=⟨(.type "re.Pattern"),none,(.fields #[(vS "[\\x00-\\x08\\x0A-\\x1F\\x7F]" 2521),(.int 32 2552),(.int 0 0),.none,.none,(.ref 187),(.int 0 0)]),#[]⟩
noncomputable def uW (P:Params):Obj:=tP #[.none,(.int 1 2554)]
noncomputable def uX (P:Params):Obj:=tP #[]
noncomputable def uY (P:Params):Obj:=tP #[(vS "param" 2558),(vS "value" 2559),(vS "quote" 2560)]
noncomputable def uZ (P:Params):Obj:=tP #[]
noncomputable def u0 (P:Params):Obj:=cD "_formatparam" "_formatparam" 2555 [(.int 157 0),(.int 3 0),(.int 0 0),(.int 0 0),(.int 3 0),(.ref 190),(.bool true),(.int 276 0),(.ref 191),.none,(.ref 192),(.ref 193),(.ref 194),(.int 2561 0),(.int 157 0),(vS "/claim/cut.py" 2562)]
noncomputable def u5 (P:Params):Obj:=fO "_formatparam" "_formatparam" gs gu gv (.ref 189) .none .none "cpy313.wsgiref.headers" 2458 195
noncomputable def yz (P:Params):Obj:=tP #[.none]
noncomputable def yA (P:Params):Obj:=tP #[]
noncomputable def yB (P:Params):Obj:=tP #[(vS "self" 2579),(vS "headers" 2580),(vS "k" 2581),(vS "v" 2582)]
noncomputable def yC (P:Params):Obj:=tP #[]
noncomputable def yD (P:Params):Obj:=cD "__init__" "Headers.__init__" 2576 [(.int 168 0),(.int 2 0),(.int 0 0),(.int 0 0),(.int 3 0),(.ref 205),(.bool true),(.int 276 0),(.ref 206),.none,(.ref 207),(.ref 208),(.ref 209),(.int 2583 0),(.int 168 0),(vS "/claim/cut.py" 2584)]
noncomputable def yE (P:Params):Obj:=fO "__init__" "Headers.__init__" c7 c8 c9 (.ref 204) .none .none "cpy313.wsgiref.headers" 2458 210
noncomputable def yF (P:Params):Obj:=tP #[]
noncomputable def yG (P:Params):Obj:=tP #[(vS "self" 2589),(vS "value" 2590),(vS "name" 2591),(vS "regex" 2592)]
noncomputable def yH (P:Params):Obj:=tP #[]
noncomputable def yI (P:Params):Obj:=cD "_convert_string_type" "Headers._convert_string_type" 2586 [(.int 178 0),(.int 2 0),(.int 0 0),(.int 1 0),(.int 3 0),(.ref 212),(.bool true),(.int 276 0),(.ref 213),.none,(.ref 214),(.ref 215),(.ref 216),(.int 2593 0),(.int 178 0),(vS "/claim/cut.py" 2594)]
noncomputable def yJ (P:Params):Obj:=fO "_convert_string_type" "Headers._convert_string_type" aX aY aZ .none .none .none "cpy313.wsgiref.headers" 2458 217
noncomputable def yK (P:Params):Obj:=tP #[]
noncomputable def yL (P:Params):Obj:=tP #[(vS "self" 2599)]
noncomputable def yM (P:Params):Obj:=tP #[]
noncomputable def yN (P:Params):Obj:=cD "__len__" "Headers.__len__" 2596 [(.int 186 0),(.int 1 0),(.int 0 0),(.int 0 0),(.int 3 0),(.ref 219),(.bool true),(.int 276 0),(.ref 220),.none,(.ref 221),(.ref 222),(.ref 223),(.int 2600 0),(.int 186 0),(vS "/claim/cut.py" 2601)]
noncomputable def yO (P:Params):Obj:=fO "__len__" "Headers.__len__" dr dt du .none .none .none "cpy313.wsgiref.headers" 2458 224
noncomputable def yP (P:Params):Obj:=tP #[]
noncomputable def yQ (P:Params):Obj:=tP #[(vS "self" 2606),(vS "name" 2607),(vS "val" 2608)]
noncomputable def yR (P:Params):Obj:=tP #[]
noncomputable def yS (P:Params):Obj:=cD "__setitem__" "Headers.__setitem__" 2603 [(.int 189 0),(.int 3 0),(.int 0 0),(.int 0 0),(.int 3 0),(.ref 226),(.bool true),(.int 276 0),(.ref 227),.none,(.ref 228),(.ref 229),(.ref 230),(.int 2609 0),(.int 189 0),(vS "/claim/cut.py" 2610)]
noncomputable def yT (P:Params):Obj:=fO "__setitem__" "Headers.__setitem__" bV bW bX .none .none .none "cpy313.wsgiref.headers" 2458 231
noncomputable def yU (P:Params):Obj:=tP #[]
noncomputable def yV (P:Params):Obj:=cD "__delitem__" "Headers.__delitem__" 2612 [(.int 193 0),(.int 2 0),(.int 0 0),(.int 0 0),(.int 3 0),(.ref 233),(.bool true),(.int 276 0),(.ref 234),.none,.none,.none,(.ref 235),(.int 2615 0),(.int 193 0),(vS "/claim/cut.py" 2616)]
noncomputable def yW (P:Params):Obj:=fO "__delitem__" "Headers.__delitem__" bY bZ b0 .none .none .none "cpy313.wsgiref.headers" 2458 236
noncomputable def yX (P:Params):Obj:=tP #[]
noncomputable def yY (P:Params):Obj:=tP #[(vS "self" 2621),(vS "name" 2622)]
noncomputable def yZ (P:Params):Obj:=tP #[]
noncomputable def y0 (P:Params):Obj:=cD "__getitem__" "Headers.__getitem__" 2618 [(.int 197 0),(.int 2 0),(.int 0 0),(.int 0 0),(.int 3 0),(.ref 238),(.bool true),(.int 276 0),(.ref 239),.none,(.ref 240),(.ref 241),(.ref 242),(.int 2623 0),(.int 197 0),(vS "/claim/cut.py" 2624)]
noncomputable def y2 (P:Params):Obj:=fO "__getitem__" "Headers.__getitem__" b7 b8 b9 .none .none .none "cpy313.wsgiref.headers" 2458 243
noncomputable def y4 (P:Params):Obj:=tP #[]
noncomputable def y5 (P:Params):Obj:=tP #[(vS "self" 2629),(vS "name" 2630)]
noncomputable def y6 (P:Params):Obj:=tP #[]
noncomputable def y7 (P:Params):Obj:=cD "__contains__" "Headers.__contains__" 2626 [(.int 200 0),(.int 2 0),(.int 0 0),(.int 0 0),(.int 3 0),(.ref 245),(.bool true),(.int 276 0),(.ref 246),.none,(.ref 247),(.ref 248),(.ref 249),(.int 2631 0),(.int 200 0),(vS "/claim/cut.py" 2632)]
noncomputable def y8 (P:Params):Obj:=fO "__contains__" "Headers.__contains__" bK bL bM .none .none .none "cpy313.wsgiref.headers" 2458 250
noncomputable def za (P:Params):Obj:=tP #[]
noncomputable def zb (P:Params):Obj:=cD "get_all" "Headers.get_all" 2634 [(.int 203 0),(.int 2 0),(.int 0 0),(.int 0 0),(.int 3 0),(.ref 252),(.bool true),(.int 276 0),(.ref 253),.none,.none,.none,(.ref 254),(.int 2637 0),(.int 203 0),(vS "/claim/cut.py" 2638)]
noncomputable def zc (P:Params):Obj:=fO "get_all" "Headers.get_all" dv dw dx .none .none .none "cpy313.wsgiref.headers" 2458 255
noncomputable def zd (P:Params):Obj:=tP #[.none]
noncomputable def ze (P:Params):Obj:=tP #[]
noncomputable def zf (P:Params):Obj:=tP #[(vS "self" 2643),(vS "name" 2644),(vS "default" 2645),(vS "k" 2646),(vS "v" 2647)]
noncomputable def zg (P:Params):Obj:=tP #[]
noncomputable def zh (P:Params):Obj:=cD "get" "Headers.get" 2640 [(.int 207 0),(.int 3 0),(.int 0 0),(.int 0 0),(.int 3 0),(.ref 258),(.bool true),(.int 276 0),(.ref 259),.none,(.ref 260),(.ref 261),(.ref 262),(.int 2648 0),(.int 207 0),(vS "/claim/cut.py" 2649)]
noncomputable def zi (P:Params):Obj:=fO "get" "Headers.get" gc gf gg (.ref 257) .none .none "cpy313.wsgiref.headers" 2458 263
noncomputable def zj (P:Params):Obj:=tP #[]
noncomputable def zk (P:Params):Obj:=cD "keys" "Headers.keys" 2651 [(.int 214 0),(.int 1 0),(.int 0 0),(.int 0 0),(.int 3 0),(.ref 265),(.bool true),(.int 276 0),(.ref 266),.none,.none,.none,(.ref 267),(.int 2654 0),(.int 214 0),(vS "/claim/cut.py" 2655)]
noncomputable def zl (P:Params):Obj:=fO "keys" "Headers.keys" eX eY eZ .none .none .none "cpy313.wsgiref.headers" 2458 268
noncomputable def zm (P:Params):Obj:=tP #[]
noncomputable def zo (P:Params):Obj:=cD "values" "Headers.values" 2657 [(.int 217 0),(.int 1 0),(.int 0 0),(.int 0 0),(.int 3 0),(.ref 270),(.bool true),(.int 276 0),(.ref 271),.none,.none,.none,(.ref 272),(.int 2660 0),(.int 217 0),(vS "/claim/cut.py" 2661)]
noncomputable def zp (P:Params):Obj:=fO "values" "Headers.values" dO dP dQ .none .none .none "cpy313.wsgiref.headers" 2458 273
noncomputable def zq (P:Params):Obj:=tP #[]
noncomputable def zr (P:Params):Obj:=tP #[(vS "self" 2666)]
noncomputable def zu (P:Params):Obj:=tP #[]
noncomputable def zv (P:Params):Obj:=cD "items" "Headers.items" 2663 [(.int 220 0),(.int 1 0),(.int 0 0),(.int 0 0),(.int 3 0),(.ref 275),(.bool true),(.int 276 0),(.ref 276),.none,(.ref 277),(.ref 278),(.ref 279),(.int 2667 0),(.int 220 0),(vS "/claim/cut.py" 2668)]
noncomputable def zw (P:Params):Obj:=fO "items" "Headers.items" eh ei ej .none .none .none "cpy313.wsgiref.headers" 2458 280
noncomputable def zx (P:Params):Obj:=tP #[]
noncomputable def zy (P:Params):Obj:=tP #[(vS "self" 2673)]
noncomputable def zA (P:Params):Obj:=tP #[]
noncomputable def zB (P:Params):Obj:=cD "__repr__" "Headers.__repr__" 2670 [(.int 223 0),(.int 1 0),(.int 0 0),(.int 0 0),(.int 3 0),(.ref 282),(.bool true),(.int 276 0),(.ref 283),.none,(.ref 284),(.ref 285),(.ref 286),(.int 2674 0),(.int 223 0),(vS "/claim/cut.py" 2675)]
noncomputable def zC (P:Params):Obj:=fO "__repr__" "Headers.__repr__" dd de df .none .none .none "cpy313.wsgiref.headers" 2458 287
noncomputable def zD (P:Params):Obj:=tP #[]
noncomputable def zE (P:Params):Obj:=cD "__str__" "Headers.__str__" 2677 [(.int 226 0),(.int 1 0),(.int 0 0),(.int 0 0),(.int 3 0),(.ref 289),(.bool true),(.int 276 0),(.ref 290),.none,.none,.none,(.ref 291),(.int 2680 0),(.int 226 0),(vS "/claim/cut.py" 2681)]
noncomputable def zF (P:Params):Obj:=fO "__str__" "Headers.__str__" dy dz dA .none .none .none "cpy313.wsgiref.headers" 2458 292
noncomputable def zG (P:Params):Obj:=tP #[]
noncomputable def zH (P:Params):Obj:=tP #[(vS "self" 2686)]
noncomputable def zI (P:Params):Obj:=tP #[]
noncomputable def zJ (P:Params):Obj:=cD "__bytes__" "Headers.__bytes__" 2683 [(.int 229 0),(.int 1 0),(.int 0 0),(.int 0 0),(.int 3 0),(.ref 294),(.bool true),(.int 276 0),(.ref 295),.none,(.ref 296),(.ref 297),(.ref 298),(.int 2687 0),(.int 229 0),(vS "/claim/cut.py" 2688)]
noncomputable def zK (P:Params):Obj:=fO "__bytes__" "Headers.__bytes__" cI cJ cK .none .none .none "cpy313.wsgiref.headers" 2458 299
noncomputable def zL (P:Params):Obj:=tP #[]
noncomputable def zM (P:Params):Obj:=tP #[(vS "self" 2693),(vS "name" 2694),(vS "value" 2695)]
noncomputable def zN (P:Params):Obj:=tP #[]
noncomputable def zO (P:Params):Obj:=cD "setdefault" "Headers.setdefault" 2690 [(.int 232 0),(.int 3 0),(.int 0 0),(.int 0 0),(.int 3 0),(.ref 301),(.bool true),(.int 276 0),(.ref 302),.none,(.ref 303),(.ref 304),(.ref 305),(.int 2696 0),(.int 232 0),(vS "/claim/cut.py" 2697)]
noncomputable def zP (P:Params):Obj:=fO "setdefault" "Headers.setdefault" cq cu cv .none .none .none "cpy313.wsgiref.headers" 2458 306
noncomputable def zQ (P:Params):Obj:=tP #[]
noncomputable def zR (P:Params):Obj:=tP #[(vS "self" 2702),(vS "_name" 2703),(vS "_value" 2704),(vS "_params" 2705),(vS "parts" 2706),(vS "k" 2707),(vS "v" 2708)]
noncomputable def zS (P:Params):Obj:=tP #[]
noncomputable def zT (P:Params):Obj:=cD "add_header" "Headers.add_header" 2699 [(.int 235 0),(.int 3 0),(.int 0 0),(.int 0 0),(.int 11 0),(.ref 308),(.bool true),(.int 276 0),(.ref 309),.none,(.ref 310),(.ref 311),(.ref 312),(.int 2709 0),(.int 235 0),(vS "/claim/cut.py" 2710)]
noncomputable def zU (P:Params):Obj:=fO "add_header" "Headers.add_header" cw cx cy .none .none .none "cpy313.wsgiref.headers" 2458 313
noncomputable def zV (P:Params):Obj:=tP #[(vS "_headers" 2712)]
noncomputable def zW (P:Params):Obj:=⟨(.type "dict"),none,(.dict #[en P "__module__" 2571 (vS "cpy313.wsgiref.headers" 2458),en P "__firstlineno__" 2575 (.int 166 2574),en P "__init__" 2585 (.ref 211),en P "_convert_string_type" 2595 (.ref 218),en P "__len__" 2602 (.ref 225),en P "__setitem__" 2611 (.ref 232),en P "__delitem__" 2617 (.ref 237),en P "__getitem__" 2625 (.ref 244),en P "__contains__" 2633 (.ref 251),en P "get_all" 2639 (.ref 256),en P "get" 2650 (.ref 264),en P "keys" 2656 (.ref 269),en P "values" 2662 (.ref 274),en P "items" 2669 (.ref 281),en P "__repr__" 2676 (.ref 288),en P "__str__" 2682 (.ref 293),en P "__bytes__" 2689 (.ref 300),en P "setdefault" 2698 (.ref 307),en P "add_header" 2711 (.ref 314),en P "__static_attributes__" 2713 (.ref 315),en P "__dict__" 2715 (.ref 318),en P "__weakref__" 2717 (.ref 319),en P "__doc__" 2718 .none] 4),#[]⟩
noncomputable def zX (P:Params):Obj:=⟨(.type "type"),none,(.cls { name:=(.ofString "Headers"),bases:=[(.type "object")],mro:=[(.ref 317),(.type "object")],ns:=316,qualname:=(.ofString "Headers"),hasDict:=true,slotNames:=[],subclasses:=[],abstract:=false,collection:=none,hasDel:=false }),#[none,none,(some (vS "Headers" 2564)),(some (vS "Headers" 2572)),(some (.builtin "object.__new__")),(some (.bool true))]⟩
noncomputable def zY (P:Params):Obj:=⟨(.type "getset_descriptor"),none,(.fields #[(vS "__dict__" 2714),(.ref 317),(.builtin "function.__dict__"),(.builtin "function.__dict__#set")]),#[]⟩
noncomputable def zZ (P:Params):Obj:=⟨(.type "getset_descriptor"),none,(.fields #[(vS "__weakref__" 2716),(.ref 317),(.builtin "ExceptionGroup.__weakref__"),.none]),#[]⟩
noncomputable def EG (P:Params):Obj:=tP #[]
noncomputable def EH (P:Params):Obj:=tP #[(vS "script" 2726),(vS "cells" 2727),(vS "k" 2728),(vS "x" 2729)]
noncomputable def EI (P:Params):Obj:=tP #[]
noncomputable def EJ (P:Params):Obj:=cD "_law_cells" "_law_cells" 2723 [(.int 249 0),(.int 1 0),(.int 0 0),(.int 0 0),(.int 3 0),(.ref 322),(.bool true),(.int 276 0),(.ref 323),.none,(.ref 324),(.ref 325),(.ref 326),(.int 2730 0),(.int 249 0),(vS "/claim/cut.py" 2731)]
noncomputable def EK (P:Params):Obj:=fO "_law_cells" "_law_cells" jl jm jn .none .none .none "law_tc0096_01" 2721 327
noncomputable def EL (P:Params):Obj:=tP #[]
noncomputable def EM (P:Params):Obj:=tP #[(vS "letters" 2736),(vS "seed" 2737),(vS "units" 2738),(vS "hidden" 2739),(vS "k" 2740),(vS "unit" 2741),(vS "text" 2742),(vS "sign" 2743),(vS "suit" 2744)]
noncomputable def EN (P:Params):Obj:=tP #[]
noncomputable def EO (P:Params):Obj:=cD "_law_typed" "_law_typed" 2733 [(.int 254 0),(.int 2 0),(.int 0 0),(.int 0 0),(.int 3 0),(.ref 329),(.bool true),(.int 276 0),(.ref 330),.none,(.ref 331),(.ref 332),(.ref 333),(.int 2745 0),(.int 254 0),(vS "/claim/cut.py" 2746)]
noncomputable def EP (P:Params):Obj:=fO "_law_typed" "_law_typed" jo jq jr .none .none .none "law_tc0096_01" 2721 334
noncomputable def ER (P:Params):Obj:=tP #[]
noncomputable def ES (P:Params):Obj:=tP #[(vS "below" 2751),(vS "above" 2752),(vS "pair" 2753),(vS "low" 2754),(vS "high" 2755)]
noncomputable def ET (P:Params):Obj:=tP #[]
noncomputable def EU (P:Params):Obj:=cD "_law_grown" "_law_grown" 2748 [(.int 267 0),(.int 3 0),(.int 0 0),(.int 0 0),(.int 3 0),(.ref 336),(.bool true),(.int 276 0),(.ref 337),.none,(.ref 338),(.ref 339),(.ref 340),(.int 2756 0),(.int 267 0),(vS "/claim/cut.py" 2757)]
noncomputable def EV (P:Params):Obj:=fO "_law_grown" "_law_grown" js jt ju .none .none .none "law_tc0096_01" 2721 341
noncomputable def EW (P:Params):Obj:=tP #[]
noncomputable def EX (P:Params):Obj:=cD "_law_masks" "_law_masks" 2759 [(.int 274 0),(.int 2 0),(.int 0 0),(.int 0 0),(.int 3 0),(.ref 343),(.bool true),(.int 276 0),(.ref 344),.none,.none,.none,(.ref 345),(.int 2762 0),(.int 274 0),(vS "/claim/cut.py" 2763)]
noncomputable def EY (P:Params):Obj:=fO "_law_masks" "_law_masks" jv jw S__law_masks .none .none .none "law_tc0096_01" 2721 346
noncomputable def EZ (P:Params):Obj:=tP #[]
noncomputable def E0 (P:Params):Obj:=tP #[(vS "row" 2768),(vS "held" 2769),(vS "search" 2770),(vS "fault" 2771)]
noncomputable def E5 (P:Params):Obj:=tP #[]
noncomputable def E6 (P:Params):Obj:=cD "_law_refused" "_law_refused" 2765 [(.int 281 0),(.int 1 0),(.int 0 0),(.int 0 0),(.int 3 0),(.ref 348),(.bool true),(.int 276 0),(.ref 349),.none,(.ref 350),(.ref 351),(.ref 352),(.int 2772 0),(.int 281 0),(vS "/claim/cut.py" 2773)]
noncomputable def E7 (P:Params):Obj:=fO "_law_refused" "_law_refused" gw B__law_refused aS .none .none .none "law_tc0096_01" 2721 353
noncomputable def E8 (P:Params):Obj:=tP #[]
noncomputable def z4 (P:Params):Obj:=cD "_law_steps" "_law_steps" 2775 [(.int 291 0),(.int 1 0),(.int 0 0),(.int 0 0),(.int 3 0),(.ref 355),(.bool true),(.int 276 0),(.ref 356),.none,.none,.none,(.ref 357),(.int 2778 0),(.int 291 0),(vS "/claim/cut.py" 2779)]
noncomputable def E9 (P:Params):Obj:=fO "_law_steps" "_law_steps" jx jy S__law_steps .none .none .none "law_tc0096_01" 2721 358
noncomputable def Fb (P:Params):Obj:=tP #[]
noncomputable def z6 (P:Params):Obj:=cD "_law_painted" "_law_painted" 2781 [(.int 301 0),(.int 3 0),(.int 0 0),(.int 0 0),(.int 3 0),(.ref 360),(.bool true),(.int 276 0),(.ref 361),.none,.none,.none,(.ref 362),(.int 2784 0),(.int 301 0),(vS "/claim/cut.py" 2785)]
noncomputable def Fc (P:Params):Obj:=fO "_law_painted" "_law_painted" gy B__law_painted S__law_painted .none .none .none "law_tc0096_01" 2721 363
noncomputable def Fd (P:Params):Obj:=tP #[]
noncomputable def Fe (P:Params):Obj:=cD "law" "law" 2787 [(.int 328 0),(.int 1 0),(.int 0 0),(.int 0 0),(.int 3 0),(.ref 365),(.bool true),(.int 276 0),(.ref 366),.none,.none,.none,(.ref 367),(.int 2790 0),(.int 328 0),(vS "/claim/cut.py" 2791)]
noncomputable def Ff (P:Params):Obj:=fO "law" "law" yx B_law S_law .none .none .none "law_tc0096_01" 2721 368
noncomputable def K:Params→Frag:=fun P=>(nat_lit 2,o_2 P)::(nat_lit 3,o_3 P)::(nat_lit 32,pO P)::(nat_lit 34,pP P)::(nat_lit 35,pQ P)::(nat_lit 37,pR P)::(nat_lit 38,pS P)::(nat_lit 39,pT P)::(nat_lit 40,pU P)::(nat_lit 41,pV P)::(nat_lit 43,pW P)::(nat_lit 44,pX P)::(nat_lit 46,pY P)::(nat_lit 47,pZ P)::(nat_lit 48,qa P)::(nat_lit 49,qb P)::(nat_lit 50,qc P)::(nat_lit 52,qd P)::(nat_lit 53,qe P)::(nat_lit 55,qf P)::(nat_lit 56,oa P)::(nat_lit 57,qg P)::(nat_lit 58,qh P)::(nat_lit 59,qi P)::(nat_lit 61,qj P)::(nat_lit 62,qk P)::(nat_lit 64,ql P)::(nat_lit 65,qm P)::(nat_lit 66,qo P)::(nat_lit 67,qp P)::(nat_lit 68,qq P)::(nat_lit 70,qr P)::(nat_lit 71,qt P)::(nat_lit 73,qu P)::(nat_lit 74,og P)::(nat_lit 75,qv P)::(nat_lit 77,qw P)::(nat_lit 78,qx P)::(nat_lit 80,qy P)::(nat_lit 81,qz P)::(nat_lit 82,qA P)::(nat_lit 84,qB P)::(nat_lit 85,qC P)::(nat_lit 87,qD P)::(nat_lit 88,qE P)::(nat_lit 89,qF P)::(nat_lit 91,qG P)::(nat_lit 92,qH P)::(nat_lit 94,qI P)::(nat_lit 95,qJ P)::(nat_lit 96,qK P)::(nat_lit 98,qL P)::(nat_lit 99,qM P)::(nat_lit 101,jz P)::(nat_lit 102,jA P)::(nat_lit 103,jB P)::(nat_lit 105,jC P)::(nat_lit 106,jD P)::(nat_lit 108,jE P)::(nat_lit 109,jF P)::(nat_lit 117,iE P)::(nat_lit 121,mA P)::(nat_lit 123,mB P)::(nat_lit 124,mC P)::(nat_lit 126,mF P)::(nat_lit 127,mG P)::(nat_lit 128,iF P)::(nat_lit 167,uN P)::(nat_lit 169,uO P)::(nat_lit 170,uP P)::(nat_lit 172,uQ P)::(nat_lit 173,uR P)::(nat_lit 177,uS P)::(nat_lit 178,uT P)::(nat_lit 182,mJ P)::(nat_lit 183,uU P)::(nat_lit 187,mK P)::(nat_lit 188,uV P)::(nat_lit 189,uW P)::(nat_lit 190,uX P)::(nat_lit 192,uY P)::(nat_lit 193,uZ P)::(nat_lit 195,u0 P)::(nat_lit 196,u5 P)::(nat_lit 204,yz P)::(nat_lit 205,yA P)::(nat_lit 207,yB P)::(nat_lit 208,yC P)::(nat_lit 210,yD P)::(nat_lit 211,yE P)::(nat_lit 212,yF P)::(nat_lit 214,yG P)::(nat_lit 215,yH P)::(nat_lit 217,yI P)::(nat_lit 218,yJ P)::(nat_lit 219,yK P)::(nat_lit 221,yL P)::(nat_lit 222,yM P)::(nat_lit 224,yN P)::(nat_lit 225,yO P)::(nat_lit 226,yP P)::(nat_lit 228,yQ P)::(nat_lit 229,yR P)::(nat_lit 231,yS P)::(nat_lit 232,yT P)::(nat_lit 233,yU P)::(nat_lit 236,yV P)::(nat_lit 237,yW P)::(nat_lit 238,yX P)::(nat_lit 240,yY P)::(nat_lit 241,yZ P)::(nat_lit 243,y0 P)::(nat_lit 244,y2 P)::(nat_lit 245,y4 P)::(nat_lit 247,y5 P)::(nat_lit 248,y6 P)::(nat_lit 250,y7 P)::(nat_lit 251,y8 P)::(nat_lit 252,za P)::(nat_lit 255,zb P)::(nat_lit 256,zc P)::(nat_lit 257,zd P)::(nat_lit 258,ze P)::(nat_lit 260,zf P)::(nat_lit 261,zg P)::(nat_lit 263,zh P)::(nat_lit 264,zi P)::(nat_lit 265,zj P)::(nat_lit 268,zk P)::(nat_lit 269,zl P)::(nat_lit 270,zm P)::(nat_lit 273,zo P)::(nat_lit 274,zp P)::(nat_lit 275,zq P)::(nat_lit 277,zr P)::(nat_lit 278,zu P)::(nat_lit 280,zv P)::(nat_lit 281,zw P)::(nat_lit 282,zx P)::(nat_lit 284,zy P)::(nat_lit 285,zA P)::(nat_lit 287,zB P)::(nat_lit 288,zC P)::(nat_lit 289,zD P)::(nat_lit 292,zE P)::(nat_lit 293,zF P)::(nat_lit 294,zG P)::(nat_lit 296,zH P)::(nat_lit 297,zI P)::(nat_lit 299,zJ P)::(nat_lit 300,zK P)::(nat_lit 301,zL P)::(nat_lit 303,zM P)::(nat_lit 304,zN P)::(nat_lit 306,zO P)::(nat_lit 307,zP P)::(nat_lit 308,zQ P)::(nat_lit 310,zR P)::(nat_lit 311,zS P)::(nat_lit 313,zT P)::(nat_lit 314,zU P)::(nat_lit 315,zV P)::(nat_lit 316,zW P)::(nat_lit 317,zX P)::(nat_lit 318,zY P)::(nat_lit 319,zZ P)::(nat_lit 322,EG P)::(nat_lit 324,EH P)::(nat_lit 325,EI P)::(nat_lit 327,EJ P)::(nat_lit 328,EK P)::(nat_lit 329,EL P)::(nat_lit 331,EM P)::(nat_lit 332,EN P)::(nat_lit 334,EO P)::(nat_lit 335,EP P)::(nat_lit 336,ER P)::(nat_lit 338,ES P)::(nat_lit 339,ET P)::(nat_lit 341,EU P)::(nat_lit 342,EV P)::(nat_lit 343,EW P)::(nat_lit 346,EX P)::(nat_lit 347,EY P)::(nat_lit 348,EZ P)::(nat_lit 350,E0 P)::(nat_lit 351,E5 P)::(nat_lit 353,E6 P)::(nat_lit 354,E7 P)::(nat_lit 355,E8 P)::(nat_lit 358,z4 P)::(nat_lit 359,E9 P)::(nat_lit 360,Fb P)::(nat_lit 363,z6 P)::(nat_lit 364,Fc P)::(nat_lit 365,Fd P)::(nat_lit 368,Fe P)::(nat_lit 369,Ff P)::[]
noncomputable def Kas:List Addr:=2::3::32::34::35::37::38::39::40::41::43::44::46::47::48::49::50::52::53::55::56::57::58::59::61::62::64::65::66::67::68::70::71::73::74::75::77::78::80::81::82::84::85::87::88::89::91::92::94::95::96::98::99::101::102::103::105::106::108::109::117::121::123::124::126::127::128::167::169::170::172::173::177::178::182::183::187::188::189::190::192::193::195::196::204::205::207::208::210::211::212::214::215::217::218::219::221::222::224::225::226::228::229::231::232::233::236::237::238::240::241::243::244::245::247::248::250::251::252::255::256::257::258::260::261::263::264::265::268::269::270::273::274::275::277::278::280::281::282::284::285::287::288::289::292::293::294::296::297::299::300::301::303::304::306::307::308::310::311::313::314::315::316::317::318::319::322::324::325::327::328::329::331::332::334::335::336::338::339::341::342::343::346::347::348::350::351::353::354::355::358::359::360::363::364::365::368::369::[]
end Mine
end
section
namespace Mine
noncomputable def nl:Params→BT:=fun _=>.nil
noncomputable def nd (o:Params→Obj) (l r:Params→BT):Params→BT:=fun P=>.node (o P) (l P) (r P)
noncomputable def lf (o:Params→Obj):Params→BT:=fun P=>.node (o P) .nil .nil
noncomputable def bs (f:String→Value) (P:Params):Nat→List String→List DictEntry
 | _,[]=>[]
 | t,s::r=>en P s t (f s)::bs f P (t + 1) r
noncomputable def iG (P:Params):Obj:=⟨(.type "dict"),none,(.dict (List.toArray ([en P "__name__" 1 (vS "builtins" 160),en P "__doc__" 2 (.builtin "builtins.__doc__:str#opaque"),en P "__package__" 3 (.builtin "builtins.__package__:str#opaque"),en P "__loader__" 4 (.builtin "builtins.__loader__:shared#opaque"),en P "__spec__" 5 (.builtin "builtins.__spec__#opaque")]++bs .builtin P 6 ["__build_class__","__import__","abs","all","any","ascii","bin","breakpoint","callable","chr","compile","delattr","dir","divmod","eval","exec","format","getattr","globals","hasattr","hash","hex","id","input","isinstance","issubclass","iter","aiter","len","locals","max","min","next","anext","oct","ord","pow","print","repr","round","setattr","sorted","sum","vars"]++[en P "None" 50 .none,en P "Ellipsis" 51 .ellipsis,en P "NotImplemented" 52 .notImplemented,en P "False" 53 (.bool false),en P "True" 54 (.bool true)]++bs .type P 55 ["bool","memoryview","bytearray","bytes","classmethod","complex","dict","enumerate","filter","float","frozenset","property","int","list","map","object","range","reversed","set","slice","staticmethod","str","super","tuple","type","zip"]++[en P "__debug__" 81 (.bool true)]++bs .type P 82 ["BaseException","BaseExceptionGroup","Exception","GeneratorExit","KeyboardInterrupt","SystemExit","ArithmeticError","AssertionError","AttributeError","BufferError","EOFError","ImportError","LookupError","MemoryError","NameError","OSError","ReferenceError","RuntimeError","StopAsyncIteration","StopIteration","SyntaxError","SystemError","TypeError","ValueError","Warning","FloatingPointError","OverflowError","ZeroDivisionError","BytesWarning","DeprecationWarning","EncodingWarning","FutureWarning","ImportWarning","PendingDeprecationWarning","ResourceWarning","RuntimeWarning","SyntaxWarning","UnicodeWarning","UserWarning","BlockingIOError","ChildProcessError","ConnectionError","FileExistsError","FileNotFoundError","InterruptedError","IsADirectoryError","NotADirectoryError","PermissionError","ProcessLookupError","TimeoutError","IndentationError","_IncompleteInputError","IndexError","KeyError","ModuleNotFoundError","NotImplementedError","PythonFinalizationError","RecursionError","UnboundLocalError","UnicodeError","BrokenPipeError","ConnectionAbortedError","ConnectionRefusedError","ConnectionResetError","TabError","UnicodeDecodeError","UnicodeEncodeError","UnicodeTranslateError","ExceptionGroup"]++[en P "EnvironmentError" 151 (.type "OSError"),en P "IOError" 152 (.type "OSError"),en P "open" 153 (.builtin "open"),en P "quit" 154 (.builtin "builtins.quit#opaque"),en P "exit" 155 (.builtin "builtins.exit#opaque"),en P "copyright" 156 (.builtin "builtins.copyright#opaque"),en P "credits" 157 (.builtin "builtins.credits#opaque"),en P "license" 158 (.builtin "builtins.license#opaque"),en P "help" 159 (.builtin "builtins.help#opaque")])) 159),#[]⟩
noncomputable def iH (P:Params):Obj:=⟨(.type "dict"),none,(.dict #[en P "builtins" 162 (.ref 4),en P "__main__" 163 (.ref 5),en P "_sre" 244 (.ref 12)] 3),#[]⟩
noncomputable def Fg (P:Params):Obj:=⟨(.type "dict"),none,(.dict #[en P "__name__" 165 (vS "__main__" 164),en P "__doc__" 166 .none,en P "__package__" 167 .none,en P "__loader__" 168 (.builtin "__main__.__loader__#opaque"),en P "__spec__" 169 .none,en P "__annotations__" 170 (.ref 6),en P "__builtins__" 171 (.ref 4),en P "__file__" 173 (vS "/claim/cut.py" 172),en P "__cached__" 174 .none,en P "_sre" 275 (.ref 12)] 10),#[]⟩
noncomputable def iI (P:Params):Obj:=⟨(.type "module"),(some 0),.plain,#[]⟩
noncomputable def iJ (P:Params):Obj:=⟨(.type "module"),(some 3),.plain,#[]⟩
noncomputable def cz (P:Params):Obj:=⟨(.type "dict"),none,(.dict #[] 0),#[]⟩
noncomputable def aC (P:Params):Obj:=tP #[]
noncomputable def af (P:Params):Obj:=⟨.none,none,(.fields #[]),#[]⟩
noncomputable def iK (P:Params):Obj:=cD "<module>" "<module>" 176 [(.int 1 0),(.int 0 0),(.int 0 0),(.int 0 0),(.int 0 0),(.ref 7),(.bool false),(.int 175 0),(.ref 8),.none,.none,.none,.none,(.int 179 0),(.int 1 0),(vS "/claim/cut.py" 180)]
noncomputable def eB (P:Params):Obj:=⟨(.type "frame"),none,.plain,#[(some (.ref 9)),(some (.ref 3)),(some (.ref 3)),none,(some (vS "__main__" 164)),none,(some (.ref 0))]⟩
noncomputable def eC (P:Params):Obj:=⟨(.type "dict"),none,(.dict #[en P "__name__" 247 (vS "_sre" 246),en P "__doc__" 248 .none,en P "__package__" 250 (vS "" 249),en P "__loader__" 251 (.builtin "off-the-table:_sre.__loader__:shared#opaque"),en P "__spec__" 252 (.builtin "off-the-table:_sre.__spec__:shared#opaque"),en P "compile" 253 (.builtin "_sre.compile"),en P "template" 254 (.builtin "off-the-table:_sre.template:shared#opaque"),en P "getcodesize" 255 (.builtin "off-the-table:_sre.getcodesize:shared#opaque"),en P "ascii_iscased" 256 (.builtin "off-the-table:_sre.ascii_iscased:shared#opaque"),en P "unicode_iscased" 257 (.builtin "off-the-table:_sre.unicode_iscased:shared#opaque"),en P "ascii_tolower" 258 (.builtin "off-the-table:_sre.ascii_tolower:shared#opaque"),en P "unicode_tolower" 259 (.builtin "off-the-table:_sre.unicode_tolower:shared#opaque"),en P "MAGIC" 261 (.int 20230612 260),en P "CODESIZE" 263 (.int 4 262),en P "MAXREPEAT" 265 (.int 4294967295 264),en P "MAXGROUPS" 267 (.int 1073741823 266),en P "copyright" 269 (vS " SRE 2.2.2 Copyright (c) 1997-2002 by Secret Labs AB " 268)] 17),#[]⟩
noncomputable def eE (P:Params):Obj:=⟨(.type "module"),(some 11),.plain,#[]⟩
noncomputable def eG (P:Params):Obj:=⟨(.type "dict"),none,(.dict #[en P "__module__" 189 (vS "_frozen_importlib" 186),en P "__firstlineno__" 190 (.int 971 187),en P "__doc__" 191 (.builtin "_frozen_importlib.BuiltinImporter.__doc__:str#opaque"),en P "_ORIGIN" 192 (vS "built-in" 188),en P "find_spec" 193 (.builtin "_frozen_importlib.BuiltinImporter.find_spec#opaque"),en P "create_module" 194 (.builtin "_frozen_importlib.BuiltinImporter.create_module#opaque"),en P "exec_module" 195 (.builtin "_frozen_importlib.BuiltinImporter.exec_module#opaque"),en P "get_code" 196 (.builtin "_frozen_importlib.BuiltinImporter.get_code#opaque"),en P "get_source" 197 (.builtin "_frozen_importlib.BuiltinImporter.get_source#opaque"),en P "is_package" 198 (.builtin "_frozen_importlib.BuiltinImporter.is_package#opaque"),en P "load_module" 199 (.builtin "_frozen_importlib.BuiltinImporter.load_module#opaque"),en P "__static_attributes__" 200 (.ref 15),en P "__dict__" 202 (.ref 16),en P "__weakref__" 204 (.ref 17)] 14),#[]⟩
noncomputable def eH (P:Params):Obj:=⟨(.type "type"),none,(.cls { name:=(.ofString "BuiltinImporter"),bases:=[(.type "object")],mro:=[(.ref 14),(.type "object")],ns:=13,qualname:=(.ofString "BuiltinImporter"),hasDict:=true,slotNames:=[],subclasses:=[],abstract:=false,collection:=none,hasDel:=false }),#[]⟩
noncomputable def eI (P:Params):Obj:=⟨(.type "getset_descriptor"),none,(.fields #[(vS "__dict__" 201),(.ref 14),(.builtin "function.__dict__"),(.builtin "function.__dict__#set")]),#[]⟩
noncomputable def eJ (P:Params):Obj:=⟨(.type "getset_descriptor"),none,(.fields #[(vS "__weakref__" 203),(.ref 14),(.builtin "ExceptionGroup.__weakref__"),.none]),#[]⟩
noncomputable def eK (P:Params):Obj:=⟨.none,none,(.seq #[(.int 13 0),(.str (.mk #[6,189,10,95,95,109,111,100,117,108,101,95,95,6,186,17,95,102,114,111,122,101,110,95,105,109,112,111,114,116,108,105,98,6,190,15,95,95,102,105,114,115,116,108,105,110,101,110,111,95,95,4,187,0,971,6,191,7,95,95,100,111,99,95,95,9,52,95,102,114,111,122,101,110,95,105,109,112,111,114,116,108,105,98,46,66,117,105,108,116,105,110,73,109,112,111,114,116,101,114,46,95,95,100,111,99,95,95,58,115,116,114,35,111,112,97,113,117,101,6,192,7,95,79,82,73,71,73,78,6,188,8,98,117,105,108,116,45,105,110,6,193,9,102,105,110,100,95,115,112,101,99,9,50,95,102,114,111,122,101,110,95,105,109,112,111,114,116,108,105,98,46,66,117,105,108,116,105,110,73,109,112,111,114,116,101,114,46,102,105,110,100,95,115,112,101,99,35,111,112,97,113,117,101,6,194,13,99,114,101,97,116,101,95,109,111,100,117,108,101,9,54,95,102,114,111,122,101,110,95,105,109,112,111,114,116,108,105,98,46,66,117,105,108,116,105,110,73,109,112,111,114,116,101,114,46,99,114,101,97,116,101,95,109,111,100,117,108,101,35,111,112,97,113,117,101,6,195,11,101,120,101,99,95,109,111,100,117,108,101,9,52,95,102,114,111,122,101,110,95,105,109,112,111,114,116,108,105,98,46,66,117,105,108,116,105,110,73,109,112,111,114,116,101,114,46,101,120,101,99,95,109,111,100,117,108,101,35,111,112,97,113,117,101,6,196,8,103,101,116,95,99,111,100,101,9,49,95,102,114,111,122,101,110,95,105,109,112,111,114,116,108,105,98,46,66,117,105,108,116,105,110,73,109,112,111,114,116,101,114,46,103,101,116,95,99,111,100,101,35,111,112,97,113,117,101,6,197,10,103,101,116,95,115,111,117,114,99,101,9,51,95,102,114,111,122,101,110,95,105,109,112,111,114,116,108,105,98,46,66,117,105,108,116,105,110,73,109,112,111,114,116,101,114,46,103,101,116,95,115,111,117,114,99,101,35,111,112,97,113,117,101,6,198,10,105,115,95,112,97,99,107,97,103,101,9,51,95,102,114,111,122,101,110,95,105,109,112,111,114,116,108,105,98,46,66,117,105,108,116,105,110,73,109,112,111,114,116,101,114,46,105,115,95,112,97,99,107,97,103,101,35,111,112,97,113,117,101,6,199,11,108,111,97,100,95,109,111,100,117,108,101,9,52,95,102,114,111,122,101,110,95,105,109,112,111,114,116,108,105,98,46,66,117,105,108,116,105,110,73,109,112,111,114,116,101,114,46,108,111,97,100,95,109,111,100,117,108,101,35,111,112,97,113,117,101,6,200,21,95,95,115,116,97,116,105,99,95,97,116,116,114,105,98,117,116,101,115,95,95,4,0,0,15,6,202,8,95,95,100,105,99,116,95,95,4,0,0,16,6,204,11,95,95,119,101,97,107,114,101,102,95,95,4,0,0,17]) 0),(.bool true),(.bool true),(vS "" 205),(.int 21 0),(.str (.mk #[6,227,10,95,95,109,111,100,117,108,101,95,95,6,217,17,95,102,114,111,122,101,110,95,105,109,112,111,114,116,108,105,98,6,228,15,95,95,102,105,114,115,116,108,105,110,101,110,111,95,95,4,218,0,562,6,229,7,95,95,100,111,99,95,95,9,47,95,102,114,111,122,101,110,95,105,109,112,111,114,116,108,105,98,46,77,111,100,117,108,101,83,112,101,99,46,95,95,100,111,99,95,95,58,115,116,114,35,111,112,97,113,117,101,6,230,8,95,95,105,110,105,116,95,95,9,44,95,102,114,111,122,101,110,95,105,109,112,111,114,116,108,105,98,46,77,111,100,117,108,101,83,112,101,99,46,95,95,105,110,105,116,95,95,35,111,112,97,113,117,101,6,231,8,95,95,114,101,112,114,95,95,9,44,95,102,114,111,122,101,110,95,105,109,112,111,114,116,108,105,98,46,77,111,100,117,108,101,83,112,101,99,46,95,95,114,101,112,114,95,95,35,111,112,97,113,117,101,6,232,6,95,95,101,113,95,95,9,42,95,102,114,111,122,101,110,95,105,109,112,111,114,116,108,105,98,46,77,111,100,117,108,101,83,112,101,99,46,95,95,101,113,95,95,35,111,112,97,113,117,101,6,233,6,99,97,99,104,101,100,9,42,95,102,114,111,122,101,110,95,105,109,112,111,114,116,108,105,98,46,77,111,100,117,108,101,83,112,101,99,46,99,97,99,104,101,100,35,111,112,97,113,117,101,6,234,6,112,97,114,101,110,116,9,42,95,102,114,111,122,101,110,95,105,109,112,111,114,116,108,105,98,46,77,111,100,117,108,101,83,112,101,99,46,112,97,114,101,110,116,35,111,112,97,113,117,101,6,235,12,104,97,115,95,108,111,99,97,116,105,111,110,9,48,95,102,114,111,122,101,110,95,105,109,112,111,114,116,108,105,98,46,77,111,100,117,108,101,83,112,101,99,46,104,97,115,95,108,111,99,97,116,105,111,110,35,111,112,97,113,117,101,6,236,21,95,95,115,116,97,116,105,99,95,97,116,116,114,105,98,117,116,101,115,95,95,4,0,0,23,6,238,8,95,95,100,105,99,116,95,95,4,0,0,24,6,240,11,95,95,119,101,97,107,114,101,102,95,95,4,0,0,25,6,241,8,95,95,104,97,115,104,95,95,0]) 0),(.bool true),(.bool true),(vS "" 242)] 1),#[]⟩
noncomputable def eL (P:Params):Obj:=⟨(.type "list"),none,(.seq #[] 0),#[]⟩
noncomputable def eM (P:Params):Obj:=⟨(.type "dict"),none,(.dict #[en P "name" 208 (vS "_sre" 207),en P "loader" 209 (.ref 14),en P "origin" 210 (vS "built-in" 184),en P "loader_state" 211 .none,en P "submodule_search_locations" 212 .none,en P "_uninitialized_submodules" 213 (.ref 19),en P "_set_fileattr" 214 (.bool false),en P "_cached" 215 .none,en P "_initializing" 243 (.bool false)] 9),#[]⟩
noncomputable def eN (P:Params):Obj:=⟨(.type "dict"),none,(.dict #[en P "__module__" 227 (vS "_frozen_importlib" 217),en P "__firstlineno__" 228 (.int 562 218),en P "__doc__" 229 (.builtin "_frozen_importlib.ModuleSpec.__doc__:str#opaque"),en P "__init__" 230 (.builtin "_frozen_importlib.ModuleSpec.__init__#opaque"),en P "__repr__" 231 (.builtin "_frozen_importlib.ModuleSpec.__repr__#opaque"),en P "__eq__" 232 (.builtin "_frozen_importlib.ModuleSpec.__eq__#opaque"),en P "cached" 233 (.builtin "_frozen_importlib.ModuleSpec.cached#opaque"),en P "parent" 234 (.builtin "_frozen_importlib.ModuleSpec.parent#opaque"),en P "has_location" 235 (.builtin "_frozen_importlib.ModuleSpec.has_location#opaque"),en P "__static_attributes__" 236 (.ref 23),en P "__dict__" 238 (.ref 24),en P "__weakref__" 240 (.ref 25),en P "__hash__" 241 .none] 13),#[]⟩
noncomputable def eO (P:Params):Obj:=⟨(.type "type"),none,(.cls { name:=(.ofString "ModuleSpec"),bases:=[(.type "object")],mro:=[(.ref 22),(.type "object")],ns:=21,qualname:=(.ofString "ModuleSpec"),hasDict:=true,slotNames:=[],subclasses:=[],abstract:=false,collection:=none,hasDel:=false }),#[]⟩
noncomputable def eP (P:Params):Obj:=tP #[(vS "_cached" 219),(vS "_set_fileattr" 220),(vS "_uninitialized_submodules" 221),(vS "loader" 222),(vS "loader_state" 223),(vS "name" 224),(vS "origin" 225),(vS "submodule_search_locations" 226)]
noncomputable def eQ (P:Params):Obj:=⟨(.type "getset_descriptor"),none,(.fields #[(vS "__dict__" 237),(.ref 22),(.builtin "function.__dict__"),(.builtin "function.__dict__#set")]),#[]⟩
noncomputable def eR (P:Params):Obj:=⟨(.type "getset_descriptor"),none,(.fields #[(vS "__weakref__" 239),(.ref 22),(.builtin "ExceptionGroup.__weakref__"),.none]),#[]⟩
noncomputable def eS (P:Params):Obj:=⟨(.ref 22),(some 20),.plain,#[]⟩
noncomputable def eT (P:Params):Obj:=⟨.none,none,(.seq #[(.int 11 0),(.str (.mk #[6,247,8,95,95,110,97,109,101,95,95,6,246,4,95,115,114,101,6,248,7,95,95,100,111,99,95,95,0,6,250,11,95,95,112,97,99,107,97,103,101,95,95,6,249,0,6,251,10,95,95,108,111,97,100,101,114,95,95,4,0,0,14,6,252,8,95,95,115,112,101,99,95,95,4,0,0,26,6,253,7,99,111,109,112,105,108,101,9,12,95,115,114,101,46,99,111,109,112,105,108,101,6,254,8,116,101,109,112,108,97,116,101,9,13,95,115,114,101,46,116,101,109,112,108,97,116,101,6,255,11,103,101,116,99,111,100,101,115,105,122,101,9,16,95,115,114,101,46,103,101,116,99,111,100,101,115,105,122,101,6,256,13,97,115,99,105,105,95,105,115,99,97,115,101,100,9,18,95,115,114,101,46,97,115,99,105,105,95,105,115,99,97,115,101,100,6,257,15,117,110,105,99,111,100,101,95,105,115,99,97,115,101,100,9,20,95,115,114,101,46,117,110,105,99,111,100,101,95,105,115,99,97,115,101,100,6,258,13,97,115,99,105,105,95,116,111,108,111,119,101,114,9,18,95,115,114,101,46,97,115,99,105,105,95,116,111,108,111,119,101,114,6,259,15,117,110,105,99,111,100,101,95,116,111,108,111,119,101,114,9,20,95,115,114,101,46,117,110,105,99,111,100,101,95,116,111,108,111,119,101,114,6,261,5,77,65,71,73,67,4,260,0,20230612,6,263,8,67,79,68,69,83,73,90,69,4,262,0,4,6,265,9,77,65,88,82,69,80,69,65,84,4,264,0,4294967295,6,267,9,77,65,88,71,82,79,85,80,83,4,266,0,1073741823,6,269,9,99,111,112,121,114,105,103,104,116,6,268,53,32,83,82,69,32,50,46,50,46,50,32,67,111,112,121,114,105,103,104,116,32,40,99,41,32,49,57,57,55,45,50,48,48,50,32,98,121,32,83,101,99,114,101,116,32,76,97,98,115,32,65,66,32]) 0),(.bool true),(.bool false),(vS "_sre" 271)] 0),#[]⟩
noncomputable def fA (P:Params):Obj:=cD "<module>" "<module>" 277 [(.int 1 0),(.int 0 0),(.int 0 0),(.int 0 0),(.int 0 0),(.ref 28),(.bool false),(.int 276 0),(.ref 29),.none,.none,.none,.none,(.int 280 0),(.int 1 0),(vS "/claim/cut.py" 281)]
noncomputable def fB (P:Params):Obj:=⟨(.type "frame"),none,.plain,#[(some (.ref 30)),(some (.ref 3)),(some (.ref 3)),none,(some (vS "__main__" 164)),none,(some (.ref 0))]⟩
noncomputable def HQ (P:Params):Obj:=⟨(.type "dict"),none,(.dict #[en P "__name__" 165 (vS "cpy313.stringprep" 430),en P "__doc__" 166 .none,en P "__package__" 167 .none,en P "__loader__" 168 (.builtin "__main__.__loader__#opaque"),en P "__spec__" 169 .none,en P "__annotations__" 170 (.ref 6),en P "__builtins__" 171 (.ref 4),en P "__file__" 173 (vS "/claim/cut.py" 172),en P "__cached__" 174 .none,en P "_sre" 275 (.ref 12),en P "_wall" 288 (.ref 38),en P "insort_right" 303 (.ref 47),en P "bisect_right" 317 (.ref 56),en P "insort_left" 330 (.ref 65),en P "bisect_left" 344 (.ref 74),en P "ONE_THIRD" 350 (.float 4599676419421066581 349),en P "ONE_SIXTH" 354 (.float 4595172819793696085 353),en P "TWO_THIRD" 358 (.float 4604180019048437077 357),en P "rgb_to_hls" 377 (.ref 81),en P "hls_to_rgb" 388 (.ref 88),en P "_v" 397 (.ref 95),en P "rgb_to_hsv" 415 (.ref 102),en P "hsv_to_rgb" 429 (.ref 109)] 23),#[]⟩
noncomputable def z7 (P:Params):Obj:=⟨.none,none,(.fields #[(.int 2 0),(.int 0 0),(.ref 37),(.int 6 0),(.int 0 0),(.ref 46),(.int 12 0),(.int 0 0),(.ref 55),(.int 32 0),(.int 0 0),(.ref 64),(.int 38 0),(.int 0 0),(.ref 73),(.int 62 0),(.int 0 0),(.ref 80),(.int 85 0),(.int 0 0),(.ref 87),(.int 94 0),(.int 0 0),(.ref 94),(.int 103 0),(.int 0 0),(.ref 101),(.int 122 0),(.int 0 0),(.ref 108)]),#[]⟩
noncomputable def gz (P:Params):Obj:=fR "_wall" "_wall" uK uL uM
noncomputable def gC (P:Params):Obj:=fR "insort_right" "insort_right" gj gk gm
noncomputable def gD (P:Params):Obj:=fR "bisect_right" "bisect_right" cj ck cp
noncomputable def gE (P:Params):Obj:=fR "insort_left" "insort_left" iy iz iA
noncomputable def gF (P:Params):Obj:=fR "bisect_left" "bisect_left" cY cZ c0
noncomputable def gG (P:Params):Obj:=fR "rgb_to_hls" "rgb_to_hls" i7 i8 i9
noncomputable def gH (P:Params):Obj:=fR "hls_to_rgb" "hls_to_rgb" jc jd je
noncomputable def gI (P:Params):Obj:=fR "_v" "_v" HN HO HP
noncomputable def ek (P:Params):Obj:=fR "rgb_to_hsv" "rgb_to_hsv" jf jg jh
noncomputable def el (P:Params):Obj:=fR "hsv_to_rgb" "hsv_to_rgb" ji jj jk
noncomputable def HR (P:Params):Obj:=⟨(.type "dict"),none,(.dict #[en P "__name__" 165 (vS "cpy313.stringprep" 430),en P "__doc__" 166 .none,en P "__package__" 167 .none,en P "__loader__" 168 (.builtin "__main__.__loader__#opaque"),en P "__spec__" 169 .none,en P "__annotations__" 170 (.ref 6),en P "__builtins__" 171 (.ref 4),en P "__file__" 173 (vS "/claim/cut.py" 172),en P "__cached__" 174 .none,en P "_sre" 275 (.ref 12),en P "_wall" 288 (.ref 38),en P "insort_right" 303 (.ref 47),en P "bisect_right" 317 (.ref 56),en P "insort_left" 330 (.ref 65),en P "bisect_left" 344 (.ref 74),en P "ONE_THIRD" 350 (.float 4599676419421066581 349),en P "ONE_SIXTH" 354 (.float 4595172819793696085 353),en P "TWO_THIRD" 358 (.float 4604180019048437077 357),en P "rgb_to_hls" 377 (.ref 81),en P "hls_to_rgb" 388 (.ref 88),en P "_v" 397 (.ref 95),en P "rgb_to_hsv" 415 (.ref 102),en P "hsv_to_rgb" 429 (.ref 109),en P "b1_set" 491 (.ref 117)] 24),#[]⟩
noncomputable def fC (P:Params):Obj:=⟨(.type "list"),none,(.seq #[(.int 173 432),(.int 847 433),(.int 6150 434),(.int 6155 435),(.int 6156 436),(.int 6157 437),(.int 8203 438),(.int 8204 439),(.int 8205 440),(.int 8288 441),(.int 65279 442)] 0),#[]⟩
noncomputable def fD (P:Params):Obj:=⟨(.type "range"),none,(.fields #[(.int 65024 443),(.int 65040 444),(.int 1 445)]),#[]⟩
noncomputable def fE (P:Params):Obj:=⟨(.type "list"),none,(.seq #[(.int 65024 448),(.int 65025 449),(.int 65026 450),(.int 65027 451),(.int 65028 452),(.int 65029 453),(.int 65030 454),(.int 65031 455),(.int 65032 456),(.int 65033 457),(.int 65034 458),(.int 65035 459),(.int 65036 460),(.int 65037 461),(.int 65038 462),(.int 65039 463)] 18),#[]⟩
noncomputable def fF (P:Params):Obj:=⟨(.type "range_iterator"),none,(.fields #[(.int 65040 0),(.int 0 0),(.int 1 0)]),#[]⟩
noncomputable def fG (P:Params):Obj:=⟨(.type "StopIteration"),none,(.fields #[(.ref 114),.none,.none,.none,(.bool false),.none]),#[]⟩
noncomputable def fH (P:Params):Obj:=⟨(.type "list"),none,(.seq #[(.int 173 432),(.int 847 433),(.int 6150 434),(.int 6155 435),(.int 6156 436),(.int 6157 437),(.int 8203 438),(.int 8204 439),(.int 8205 440),(.int 8288 441),(.int 65279 442),(.int 65024 448),(.int 65025 449),(.int 65026 450),(.int 65027 451),(.int 65028 452),(.int 65029 453),(.int 65030 454),(.int 65031 455),(.int 65032 456),(.int 65033 457),(.int 65034 458),(.int 65035 459),(.int 65036 460),(.int 65037 461),(.int 65038 462),(.int 65039 463)] 0),#[]⟩
noncomputable def fI (P:Params):Obj:=⟨(.type "list_iterator"),none,(.fields #[.none,(.int 27 0)]),#[]⟩
noncomputable def fJ (P:Params):Obj:=⟨(.type "StopIteration"),none,(.fields #[(.ref 119),.none,.none,.none,(.bool false),.none]),#[]⟩
noncomputable def Fh (P:Params):Obj:=⟨(.type "dict"),none,(.dict #[en P "__name__" 165 (vS "cpy313.stringprep" 430),en P "__doc__" 166 .none,en P "__package__" 167 .none,en P "__loader__" 168 (.builtin "__main__.__loader__#opaque"),en P "__spec__" 169 .none,en P "__annotations__" 170 (.ref 6),en P "__builtins__" 171 (.ref 4),en P "__file__" 173 (vS "/claim/cut.py" 172),en P "__cached__" 174 .none,en P "_sre" 275 (.ref 12),en P "_wall" 288 (.ref 38),en P "insort_right" 303 (.ref 47),en P "bisect_right" 317 (.ref 56),en P "insort_left" 330 (.ref 65),en P "bisect_left" 344 (.ref 74),en P "ONE_THIRD" 350 (.float 4599676419421066581 349),en P "ONE_SIXTH" 354 (.float 4595172819793696085 353),en P "TWO_THIRD" 358 (.float 4604180019048437077 357),en P "rgb_to_hls" 377 (.ref 81),en P "hls_to_rgb" 388 (.ref 88),en P "_v" 397 (.ref 95),en P "rgb_to_hsv" 415 (.ref 102),en P "hsv_to_rgb" 429 (.ref 109),en P "b1_set" 491 (.ref 117),en P "in_table_b1" 498 (.ref 127)] 25),#[]⟩
noncomputable def tA (P:Params):Obj:=⟨.none,none,(.fields #[(.int 2 0),(.int 0 0),(.ref 37),(.int 6 0),(.int 0 0),(.ref 46),(.int 12 0),(.int 0 0),(.ref 55),(.int 32 0),(.int 0 0),(.ref 64),(.int 38 0),(.int 0 0),(.ref 73),(.int 62 0),(.int 0 0),(.ref 80),(.int 85 0),(.int 0 0),(.ref 87),(.int 94 0),(.int 0 0),(.ref 94),(.int 103 0),(.int 0 0),(.ref 101),(.int 122 0),(.int 0 0),(.ref 108),(.int 145 0),(.int 0 0),(.ref 126)]),#[]⟩
noncomputable def hV (P:Params):Obj:=fR "in_table_b1" "in_table_b1" iB iC iD
noncomputable def jG (P:Params):Obj:=b3s 0
noncomputable def jH (P:Params):Obj:=b3s 1
noncomputable def jI (P:Params):Obj:=b3s 2
noncomputable def jJ (P:Params):Obj:=b3s 3
noncomputable def jK (P:Params):Obj:=b3s 4
noncomputable def jL (P:Params):Obj:=b3s 5
noncomputable def jM (P:Params):Obj:=b3s 6
noncomputable def jN (P:Params):Obj:=b3s 7
noncomputable def jO (P:Params):Obj:=b3s 8
noncomputable def jP (P:Params):Obj:=b3s 9
noncomputable def jQ (P:Params):Obj:=b3s 10
noncomputable def jR (P:Params):Obj:=b3s 11
noncomputable def jS (P:Params):Obj:=b3s 12
noncomputable def jT (P:Params):Obj:=b3s 13
noncomputable def jU (P:Params):Obj:=b3s 14
noncomputable def jV (P:Params):Obj:=b3s 15
noncomputable def jW (P:Params):Obj:=b3s 16
noncomputable def jX (P:Params):Obj:=b3s 17
noncomputable def jY (P:Params):Obj:=b3s 18
noncomputable def jZ (P:Params):Obj:=b3s 19
noncomputable def j0 (P:Params):Obj:=b3s 20
noncomputable def j1 (P:Params):Obj:=b3s 21
noncomputable def j2 (P:Params):Obj:=b3s 22
noncomputable def j3 (P:Params):Obj:=b3s 23
noncomputable def j4 (P:Params):Obj:=b3s 24
noncomputable def j5 (P:Params):Obj:=b3s 25
noncomputable def j6 (P:Params):Obj:=b3s 26
noncomputable def j7 (P:Params):Obj:=b3s 27
noncomputable def j8 (P:Params):Obj:=b3s 28
noncomputable def j9 (P:Params):Obj:=b3s 29
noncomputable def kg (P:Params):Obj:=b3s 30
noncomputable def kh (P:Params):Obj:=b3s 31
noncomputable def ki (P:Params):Obj:=b3s 32
noncomputable def kj (P:Params):Obj:=b3s 33
noncomputable def kl (P:Params):Obj:=b3s 34
noncomputable def km (P:Params):Obj:=b3s 35
noncomputable def ko (P:Params):Obj:=b3s 36
noncomputable def ku (P:Params):Obj:=b3s 37
noncomputable def HS (P:Params):Obj:=⟨(.type "dict"),none,(.dict #[en P "__name__" 165 (vS "cpy313.stringprep" 430),en P "__doc__" 166 .none,en P "__package__" 167 .none,en P "__loader__" 168 (.builtin "__main__.__loader__#opaque"),en P "__spec__" 169 .none,en P "__annotations__" 170 (.ref 6),en P "__builtins__" 171 (.ref 4),en P "__file__" 173 (vS "/claim/cut.py" 172),en P "__cached__" 174 .none,en P "_sre" 275 (.ref 12),en P "_wall" 288 (.ref 38),en P "insort_right" 303 (.ref 47),en P "bisect_right" 317 (.ref 56),en P "insort_left" 330 (.ref 65),en P "bisect_left" 344 (.ref 74),en P "ONE_THIRD" 350 (.float 4599676419421066581 349),en P "ONE_SIXTH" 354 (.float 4595172819793696085 353),en P "TWO_THIRD" 358 (.float 4604180019048437077 357),en P "rgb_to_hls" 377 (.ref 81),en P "hls_to_rgb" 388 (.ref 88),en P "_v" 397 (.ref 95),en P "rgb_to_hsv" 415 (.ref 102),en P "hsv_to_rgb" 429 (.ref 109),en P "b1_set" 491 (.ref 117),en P "in_table_b1" 498 (.ref 127),en P "b3_exceptions" 2449 (.ref 128)] 26),#[]⟩
noncomputable def HT (P:Params):Obj:=⟨(.type "dict"),none,(.dict #[en P "__name__" 165 (vS "cpy313.wsgiref.headers" 2458),en P "__doc__" 166 .none,en P "__package__" 167 .none,en P "__loader__" 168 (.builtin "__main__.__loader__#opaque"),en P "__spec__" 169 .none,en P "__annotations__" 170 (.ref 6),en P "__builtins__" 171 (.ref 4),en P "__file__" 173 (vS "/claim/cut.py" 172),en P "__cached__" 174 .none,en P "_sre" 275 (.ref 12),en P "_wall" 288 (.ref 38),en P "insort_right" 303 (.ref 47),en P "bisect_right" 317 (.ref 56),en P "insort_left" 330 (.ref 65),en P "bisect_left" 344 (.ref 74),en P "ONE_THIRD" 350 (.float 4599676419421066581 349),en P "ONE_SIXTH" 354 (.float 4595172819793696085 353),en P "TWO_THIRD" 358 (.float 4604180019048437077 357),en P "rgb_to_hls" 377 (.ref 81),en P "hls_to_rgb" 388 (.ref 88),en P "_v" 397 (.ref 95),en P "rgb_to_hsv" 415 (.ref 102),en P "hsv_to_rgb" 429 (.ref 109),en P "b1_set" 491 (.ref 117),en P "in_table_b1" 498 (.ref 127),en P "b3_exceptions" 2449 (.ref 128),en P "map_table_b3" 2457 (.ref 173),en P "tspecials" 2493 (.ref 178),en P "_name_disallowed_re" 2519 (.ref 183),en P "_value_disallowed_re" 2553 (.ref 188),en P "_formatparam" 2563 (.ref 196)] 31),#[]⟩
noncomputable def FX (P:Params):Obj:=⟨.none,none,(.fields #[(.int 2 0),(.int 0 0),(.ref 37),(.int 6 0),(.int 0 0),(.ref 46),(.int 12 0),(.int 0 0),(.ref 55),(.int 32 0),(.int 0 0),(.ref 64),(.int 38 0),(.int 0 0),(.ref 73),(.int 62 0),(.int 0 0),(.ref 80),(.int 85 0),(.int 0 0),(.ref 87),(.int 94 0),(.int 0 0),(.ref 94),(.int 103 0),(.int 0 0),(.ref 101),(.int 122 0),(.int 0 0),(.ref 108),(.int 145 0),(.int 0 0),(.ref 126),(.int 148 0),(.int 0 0),(.ref 172),(.int 157 0),(.int 0 0),(.ref 195)]),#[]⟩
noncomputable def qN (P:Params):Obj:=fR "map_table_b3" "map_table_b3" gn gp gq
noncomputable def qO (P:Params):Obj:=⟨(.type "list"),none,(.seq #[(.int 14 2463),(.int 14 2464),(.int 4 2465),(.int 1 2466),(.int 1 2467),(.int 9 2468),(.int 0 2469),(.int 4227896069 2470),(.int 939524097 2471),(.int 0 2472),(.int 0 2473),(.int 0 2474),(.int 0 2475),(.int 0 2476),(.int 0 2477),(.int 13 2478),(.int 11 2479),(.int 9 2480),(.int 0 2481),(.int 4227896069 2482),(.int 939524097 2483),(.int 0 2484),(.int 0 2485),(.int 0 2486),(.int 0 2487),(.int 0 2488),(.int 0 2489),(.int 1 2490)] 0),#[]⟩
noncomputable def dD (P:Params):Obj:=tP #[.none]
noncomputable def qP (P:Params):Obj:=⟨(.type "list"),none,(.seq #[(.int 14 2497),(.int 10 2498),(.int 4 2499),(.int 1 2500),(.int 1 2501),(.int 22 2502),(.int 0 2503),(.int 31 2504),(.int 16 2505),(.int 127 2506),(.int 0 2507),(.int 13 2508),(.int 7 2509),(.int 22 2510),(.int 0 2511),(.int 31 2512),(.int 16 2513),(.int 127 2514),(.int 0 2515),(.int 1 2516)] 0),#[]⟩
noncomputable def qQ (P:Params):Obj:=⟨(.type "list"),none,(.seq #[(.int 14 2523),(.int 14 2524),(.int 4 2525),(.int 1 2526),(.int 1 2527),(.int 9 2528),(.int 4294966783 2529),(.int 0 2530),(.int 0 2531),(.int 2147483648 2532),(.int 0 2533),(.int 0 2534),(.int 0 2535),(.int 0 2536),(.int 0 2537),(.int 13 2538),(.int 11 2539),(.int 9 2540),(.int 4294966783 2541),(.int 0 2542),(.int 0 2543),(.int 2147483648 2544),(.int 0 2545),(.int 0 2546),(.int 0 2547),(.int 0 2548),(.int 0 2549),(.int 1 2550)] 0),#[]⟩
noncomputable def qR (P:Params):Obj:=fR "_formatparam" "_formatparam" gs gu gv
noncomputable def HU (P:Params):Obj:=⟨(.type "dict"),none,(.dict #[en P "__name__" 165 (vS "cpy313.wsgiref.headers" 2458),en P "__doc__" 166 .none,en P "__package__" 167 .none,en P "__loader__" 168 (.builtin "__main__.__loader__#opaque"),en P "__spec__" 169 .none,en P "__annotations__" 170 (.ref 6),en P "__builtins__" 171 (.ref 4),en P "__file__" 173 (vS "/claim/cut.py" 172),en P "__cached__" 174 .none,en P "_sre" 275 (.ref 12),en P "_wall" 288 (.ref 38),en P "insort_right" 303 (.ref 47),en P "bisect_right" 317 (.ref 56),en P "insort_left" 330 (.ref 65),en P "bisect_left" 344 (.ref 74),en P "ONE_THIRD" 350 (.float 4599676419421066581 349),en P "ONE_SIXTH" 354 (.float 4595172819793696085 353),en P "TWO_THIRD" 358 (.float 4604180019048437077 357),en P "rgb_to_hls" 377 (.ref 81),en P "hls_to_rgb" 388 (.ref 88),en P "_v" 397 (.ref 95),en P "rgb_to_hsv" 415 (.ref 102),en P "hsv_to_rgb" 429 (.ref 109),en P "b1_set" 491 (.ref 117),en P "in_table_b1" 498 (.ref 127),en P "b3_exceptions" 2449 (.ref 128),en P "map_table_b3" 2457 (.ref 173),en P "tspecials" 2493 (.ref 178),en P "_name_disallowed_re" 2519 (.ref 183),en P "_value_disallowed_re" 2553 (.ref 188),en P "_formatparam" 2563 (.ref 196),en P "Headers" 2720 (.ref 317)] 32),#[]⟩
noncomputable def FY (P:Params):Obj:=⟨.none,none,(.fields #[(.int 2 0),(.int 0 0),(.ref 37),(.int 6 0),(.int 0 0),(.ref 46),(.int 12 0),(.int 0 0),(.ref 55),(.int 32 0),(.int 0 0),(.ref 64),(.int 38 0),(.int 0 0),(.ref 73),(.int 62 0),(.int 0 0),(.ref 80),(.int 85 0),(.int 0 0),(.ref 87),(.int 94 0),(.int 0 0),(.ref 94),(.int 103 0),(.int 0 0),(.ref 101),(.int 122 0),(.int 0 0),(.ref 108),(.int 145 0),(.int 0 0),(.ref 126),(.int 148 0),(.int 0 0),(.ref 172),(.int 157 0),(.int 0 0),(.ref 195),(.int 166 0),(.int 0 0),(.ref 202)]),#[]⟩
noncomputable def u6 (P:Params):Obj:=⟨(.type "builtin_function_or_method"),none,(.fields #[(.builtin "type.__prepare__"),(.type "type")]),#[]⟩
noncomputable def u7 (P:Params):Obj:=⟨(.type "dict"),none,(.dict #[en P "__module__" 2571 (vS "cpy313.wsgiref.headers" 2458),en P "__qualname__" 2573 (vS "Headers" 2572),en P "__firstlineno__" 2575 (.int 166 2574),en P "__init__" 2585 (.ref 211),en P "_convert_string_type" 2595 (.ref 218),en P "__len__" 2602 (.ref 225),en P "__setitem__" 2611 (.ref 232),en P "__delitem__" 2617 (.ref 237),en P "__getitem__" 2625 (.ref 244),en P "__contains__" 2633 (.ref 251),en P "get_all" 2639 (.ref 256),en P "get" 2650 (.ref 264),en P "keys" 2656 (.ref 269),en P "values" 2662 (.ref 274),en P "items" 2669 (.ref 281),en P "__repr__" 2676 (.ref 288),en P "__str__" 2682 (.ref 293),en P "__bytes__" 2689 (.ref 300),en P "setdefault" 2698 (.ref 307),en P "add_header" 2711 (.ref 314),en P "__static_attributes__" 2713 (.ref 315)] 21),#[]⟩
noncomputable def vd (P:Params):Obj:=⟨.none,none,(.fields #[(.int 168 0),(.int 4 0),(.ref 210),(.int 178 0),(.int 4 0),(.ref 217),(.int 186 0),(.int 4 0),(.ref 224),(.int 189 0),(.int 4 0),(.ref 231),(.int 193 0),(.int 4 0),(.ref 236),(.int 197 0),(.int 4 0),(.ref 243),(.int 200 0),(.int 4 0),(.ref 250),(.int 203 0),(.int 4 0),(.ref 255),(.int 207 0),(.int 4 0),(.ref 263),(.int 214 0),(.int 4 0),(.ref 268),(.int 217 0),(.int 4 0),(.ref 273),(.int 220 0),(.int 4 0),(.ref 280),(.int 223 0),(.int 4 0),(.ref 287),(.int 226 0),(.int 4 0),(.ref 292),(.int 229 0),(.int 4 0),(.ref 299),(.int 232 0),(.int 4 0),(.ref 306),(.int 235 0),(.int 4 0),(.ref 313)]),#[]⟩
noncomputable def ve (P:Params):Obj:=cD "Headers" "Headers" 2566 [(.int 166 0),(.int 0 0),(.int 0 0),(.int 0 0),(.int 0 0),(.ref 200),(.bool false),(.int 276 0),(.ref 201),.none,.none,.none,.none,(.int 2569 0),(.int 166 0),(vS "/claim/cut.py" 2570)]
noncomputable def vf (P:Params):Obj:=⟨(.type "frame"),none,.plain,#[(some (.ref 202)),(some (.ref 3)),(some (.ref 199)),none,(some (vS "cpy313.wsgiref.headers" 2458)),none,(some (.ref 0))]⟩
noncomputable def vg (P:Params):Obj:=fR "__init__" "Headers.__init__" c7 c8 c9
noncomputable def vi (P:Params):Obj:=fR "_convert_string_type" "Headers._convert_string_type" aX aY aZ
noncomputable def vj (P:Params):Obj:=fR "__len__" "Headers.__len__" dr dt du
noncomputable def vk (P:Params):Obj:=fR "__setitem__" "Headers.__setitem__" bV bW bX
noncomputable def vl (P:Params):Obj:=fR "__delitem__" "Headers.__delitem__" bY bZ b0
noncomputable def vm (P:Params):Obj:=fR "__getitem__" "Headers.__getitem__" b7 b8 b9
noncomputable def vn (P:Params):Obj:=fR "__contains__" "Headers.__contains__" bK bL bM
noncomputable def vp (P:Params):Obj:=fR "get_all" "Headers.get_all" dv dw dx
noncomputable def vq (P:Params):Obj:=fR "get" "Headers.get" gc gf gg
noncomputable def vw (P:Params):Obj:=fR "keys" "Headers.keys" eX eY eZ
noncomputable def vy (P:Params):Obj:=fR "values" "Headers.values" dO dP dQ
noncomputable def vz (P:Params):Obj:=fR "items" "Headers.items" eh ei ej
noncomputable def vA (P:Params):Obj:=fR "__repr__" "Headers.__repr__" dd de df
noncomputable def vB (P:Params):Obj:=fR "__str__" "Headers.__str__" dy dz dA
noncomputable def vC (P:Params):Obj:=fR "__bytes__" "Headers.__bytes__" cI cJ cK
noncomputable def vD (P:Params):Obj:=fR "setdefault" "Headers.setdefault" cq cu cv
noncomputable def vE (P:Params):Obj:=fR "add_header" "Headers.add_header" cw cx cy
noncomputable def vG (P:Params):Obj:=⟨(.type "super"),none,(.fields #[(.ref 317),(.ref 317),(.ref 317)]),#[]⟩
noncomputable def vH (P:Params):Obj:=⟨(.type "builtin_function_or_method"),none,(.fields #[(.builtin "object.__init_subclass__"),(.ref 317)]),#[]⟩
noncomputable def FZ (P:Params):Obj:=⟨.none,none,(.fields (List.toArray ((.int 2 0)::(.int 0 0)::(.ref 37)::(.int 6 0)::(.int 0 0)::(.ref 46)::(.int 12 0)::(.int 0 0)::(.ref 55)::(.int 32 0)::(.int 0 0)::(.ref 64)::(.int 38 0)::(.int 0 0)::(.ref 73)::(.int 62 0)::(.int 0 0)::(.ref 80)::(.int 85 0)::(.int 0 0)::(.ref 87)::(.int 94 0)::(.int 0 0)::(.ref 94)::(.int 103 0)::(.int 0 0)::(.ref 101)::(.int 122 0)::(.int 0 0)::(.ref 108)::(.int 145 0)::(.int 0 0)::(.ref 126)::(.int 148 0)::(.int 0 0)::(.ref 172)::(.int 157 0)::(.int 0 0)::(.ref 195)::(.int 166 0)::(.int 0 0)::(.ref 202)::(.int 249 0)::(.int 0 0)::(.ref 327)::(.int 254 0)::(.int 0 0)::(.ref 334)::(.int 267 0)::(.int 0 0)::(.ref 341)::(.int 274 0)::(.int 0 0)::(.ref 346)::(.int 281 0)::(.int 0 0)::(.ref 353)::(.int 291 0)::(.int 0 0)::(.ref 358)::(.int 301 0)::(.int 0 0)::(.ref 363)::(.int 328 0)::(.int 0 0)::(.ref 368)::[]))),#[]⟩
noncomputable def CO (P:Params):Obj:=fR "_law_cells" "_law_cells" jl jm jn
noncomputable def CP (P:Params):Obj:=fR "_law_typed" "_law_typed" jo jq jr
noncomputable def CQ (P:Params):Obj:=fR "_law_grown" "_law_grown" js jt ju
noncomputable def CR (P:Params):Obj:=fR "_law_masks" "_law_masks" jv jw S__law_masks
noncomputable def CS (P:Params):Obj:=fR "_law_refused" "_law_refused" gw B__law_refused aS
noncomputable def CT (P:Params):Obj:=fR "_law_steps" "_law_steps" jx jy S__law_steps
noncomputable def CU (P:Params):Obj:=fR "_law_painted" "_law_painted" gy B__law_painted S__law_painted
noncomputable def CV (P:Params):Obj:=fR "law" "law" yx B_law S_law
noncomputable def F0:Params→BT:=(nd iG (nd iH (nd Fg (nd aC (lf aC) (lf eP)) (nd eC (lf eL) (lf eT))) (nd iJ (nd iK (lf eJ) (lf eR)) (nd eG (lf eN) nl))) (nd o_2 (nd iI (nd af (lf eI) (lf eQ)) (nd eE (lf eM) nl)) (nd cz (nd eB (lf eK) (lf eS)) (nd eH (lf eO) nl))))
noncomputable def HV:Params→BT:=(nd iG (nd iH (nd Fg (nd aC (nd aC (lf fB) nl) (lf eP)) (nd eC (lf eL) (lf eT))) (nd iJ (nd iK (lf eJ) (lf eR)) (nd eG (lf eN) (lf af)))) (nd o_2 (nd iI (nd af (lf eI) (lf eQ)) (nd eE (lf eM) (lf aC))) (nd cz (nd eB (lf eK) (lf eS)) (nd eH (lf eO) (lf fA)))))
noncomputable abbrev JV:=HV
noncomputable def HW:Params→BT:=(nd iG (nd iH (nd HQ (nd aC (nd aC (nd fB (lf gE) (lf qJ)) (nd pZ (lf gG) nl)) (nd eP (nd pT (lf qt) (lf jB)) (nd qf (lf qD) nl))) (nd eC (nd eL (nd pQ (lf qp) (lf qM)) (nd af (lf af) nl)) (nd eT (nd pW (lf qv) (lf el)) (nd qi (lf qG) nl)))) (nd iJ (nd iK (nd eJ (nd af (lf qm) (lf af)) (nd qb (lf qz) nl)) (nd eR (nd pV (lf qu) (lf jC)) (nd qg (lf qF) nl))) (nd eG (nd eN (nd pR (lf af) (lf jz)) (nd qe (lf qC) nl)) (nd z7 (nd gC (lf qw) (lf jF)) (nd qj (lf gI) nl))))) (nd o_2 (nd iI (nd af (nd eI (nd pO (lf ql) (lf qK)) (nd qa (lf qy) nl)) (nd eQ (nd pU (lf gF) (lf af)) (nd oa (lf qE) nl))) (nd eE (nd eM (nd gz (lf qq) (lf ek)) (nd qd (lf qB) nl)) (nd aC (nd pX (lf af) (lf jE)) (nd af (lf qH) nl)))) (nd cz (nd eB (nd eK (nd pP (lf qo) (lf qL)) (nd qc (lf qA) nl)) (nd eS (nd af (lf og) (lf jD)) (nd qh (lf af) nl))) (nd eH (nd eO (nd pS (lf qr) (lf jA)) (nd gD (lf gH) nl)) (nd fA (nd pY (lf qx) nl) (nd qk (lf qI) nl))))))
noncomputable def HX:Params→BT:=(nd iG (nd iH (nd HR (nd aC (nd aC (nd fB (lf gE) (lf qJ)) (nd pZ (lf gG) (lf fD))) (nd eP (nd pT (lf qt) (lf jB)) (nd qf (lf qD) (lf aC)))) (nd eC (nd eL (nd pQ (lf qp) (lf qM)) (nd af (lf af) (lf fG))) (nd eT (nd pW (lf qv) (lf el)) (nd qi (lf qG) nl)))) (nd iJ (nd iK (nd eJ (nd af (lf qm) (lf af)) (nd qb (lf qz) (lf fF))) (nd eR (nd pV (lf qu) (lf jC)) (nd qg (lf qF) nl))) (nd eG (nd eN (nd pR (lf af) (lf jz)) (nd qe (lf qC) (lf iE))) (nd z7 (nd gC (lf qw) (lf jF)) (nd qj (lf gI) nl))))) (nd o_2 (nd iI (nd af (nd eI (nd pO (lf ql) (lf qK)) (nd qa (lf qy) (lf fE))) (nd eQ (nd pU (lf gF) (lf af)) (nd oa (lf qE) (lf fJ)))) (nd eE (nd eM (nd gz (lf qq) (lf ek)) (nd qd (lf qB) (lf fH))) (nd aC (nd pX (lf af) (lf jE)) (nd af (lf qH) nl)))) (nd cz (nd eB (nd eK (nd pP (lf qo) (lf qL)) (nd qc (lf qA) (lf aC))) (nd eS (nd af (lf og) (lf jD)) (nd qh (lf af) nl))) (nd eH (nd eO (nd pS (lf qr) (lf jA)) (nd gD (lf gH) (lf fI))) (nd fA (nd pY (lf qx) (lf fC)) (nd qk (lf qI) nl))))))
noncomputable def Fi:Params→BT:=(nd iG (nd iH (nd Fh (nd aC (nd aC (nd fB (nd gE (lf mG) nl) (lf qJ)) (nd pZ (lf gG) (lf fD))) (nd eP (nd pT (lf qt) (lf jB)) (nd qf (lf qD) (lf aC)))) (nd eC (nd eL (nd pQ (lf qp) (lf qM)) (nd af (lf af) (lf fG))) (nd eT (nd pW (lf qv) (lf el)) (nd qi (lf qG) (lf mB))))) (nd iJ (nd iK (nd eJ (nd af (lf qm) (lf af)) (nd qb (lf qz) (lf fF))) (nd eR (nd pV (lf qu) (lf jC)) (nd qg (lf qF) (lf mA)))) (nd eG (nd eN (nd pR (lf af) (lf jz)) (nd qe (lf qC) (lf iE))) (nd tA (nd gC (lf qw) (lf jF)) (nd qj (lf gI) (lf hV)))))) (nd o_2 (nd iI (nd af (nd eI (nd pO (lf ql) (lf qK)) (nd qa (lf qy) (lf fE))) (nd eQ (nd pU (lf gF) (lf af)) (nd oa (lf qE) (lf fJ)))) (nd eE (nd eM (nd gz (lf qq) (lf ek)) (nd qd (lf qB) (lf fH))) (nd aC (nd pX (lf af) (lf jE)) (nd af (lf qH) (lf mC))))) (nd cz (nd eB (nd eK (nd pP (lf qo) (lf qL)) (nd qc (lf qA) (lf aC))) (nd eS (nd af (lf og) (lf jD)) (nd qh (lf af) (lf af)))) (nd eH (nd eO (nd pS (lf qr) (lf jA)) (nd gD (lf gH) (lf fI))) (nd fA (nd pY (lf qx) (lf fC)) (nd qk (lf qI) (lf mF)))))))
noncomputable def HY:Params→BT:=(nd iG (nd iH (nd Fh (nd aC (nd aC (nd fB (nd gE (lf mG) nl) (nd qJ (lf kg) nl)) (nd pZ (nd gG (lf jU) nl) (lf fD))) (nd eP (nd pT (nd qt (lf jM) nl) (lf jB)) (nd qf (nd qD (lf j2) nl) (lf aC)))) (nd eC (nd eL (nd pQ (nd qp (lf jI) nl) (nd qM (lf kl) nl)) (nd af (nd af (lf jY) nl) (lf fG))) (nd eT (nd pW (nd qv (lf jQ) nl) (lf el)) (nd qi (nd qG (lf j6) nl) (lf mB))))) (nd iJ (nd iK (nd eJ (nd af (nd qm (lf jG) nl) (nd af (lf ki) nl)) (nd qb (nd qz (lf jW) nl) (lf fF))) (nd eR (nd pV (nd qu (lf jO) nl) (lf jC)) (nd qg (nd qF (lf j4) nl) (lf mA)))) (nd eG (nd eN (nd pR (nd af (lf jK) nl) (nd jz (lf ko) nl)) (nd qe (nd qC (lf j0) nl) (lf iE))) (nd tA (nd gC (nd qw (lf jS) nl) (lf jF)) (nd qj (nd gI (lf j8) nl) (lf hV)))))) (nd o_2 (nd iI (nd af (nd eI (nd pO (nd ql (lf iF) nl) (nd qK (lf kh) nl)) (nd qa (nd qy (lf jV) nl) (lf fE))) (nd eQ (nd pU (nd gF (lf jN) nl) (lf af)) (nd oa (nd qE (lf j3) nl) (lf fJ)))) (nd eE (nd eM (nd gz (nd qq (lf jJ) nl) (nd ek (lf km) nl)) (nd qd (nd qB (lf jZ) nl) (lf fH))) (nd aC (nd pX (nd af (lf jR) nl) (lf jE)) (nd af (nd qH (lf j7) nl) (lf mC))))) (nd cz (nd eB (nd eK (nd pP (nd qo (lf jH) nl) (nd qL (lf kj) nl)) (nd qc (nd qA (lf jX) nl) (lf aC))) (nd eS (nd af (nd og (lf jP) nl) (lf jD)) (nd qh (nd af (lf j5) nl) (lf af)))) (nd eH (nd eO (nd pS (nd qr (lf jL) nl) (nd jA (lf ku) nl)) (nd gD (nd gH (lf j1) nl) (lf fI))) (nd fA (nd pY (nd qx (lf jT) nl) (lf fC)) (nd qk (nd qI (lf j9) nl) (lf mF)))))))
noncomputable def HZ:Params→BT:=(nd iG (nd iH (nd HS (nd aC (nd aC (nd fB (nd gE (lf mG) nl) (nd qJ (lf kg) nl)) (nd pZ (nd gG (lf jU) nl) (lf fD))) (nd eP (nd pT (nd qt (lf jM) nl) (lf jB)) (nd qf (nd qD (lf j2) nl) (lf aC)))) (nd eC (nd eL (nd pQ (nd qp (lf jI) nl) (nd qM (lf kl) nl)) (nd af (nd af (lf jY) nl) (lf fG))) (nd eT (nd pW (nd qv (lf jQ) nl) (lf el)) (nd qi (nd qG (lf j6) nl) (lf mB))))) (nd iJ (nd iK (nd eJ (nd af (nd qm (lf jG) nl) (nd af (lf ki) nl)) (nd qb (nd qz (lf jW) nl) (lf fF))) (nd eR (nd pV (nd qu (lf jO) nl) (lf jC)) (nd qg (nd qF (lf j4) nl) (lf mA)))) (nd eG (nd eN (nd pR (nd af (lf jK) nl) (nd jz (lf ko) nl)) (nd qe (nd qC (lf j0) nl) (lf iE))) (nd tA (nd gC (nd qw (lf jS) nl) (lf jF)) (nd qj (nd gI (lf j8) nl) (lf hV)))))) (nd o_2 (nd iI (nd af (nd eI (nd pO (nd ql (lf iF) nl) (nd qK (lf kh) nl)) (nd qa (nd qy (lf jV) nl) (lf fE))) (nd eQ (nd pU (nd gF (lf jN) nl) (lf af)) (nd oa (nd qE (lf j3) nl) (lf fJ)))) (nd eE (nd eM (nd gz (nd qq (lf jJ) nl) (nd ek (lf km) nl)) (nd qd (nd qB (lf jZ) nl) (lf fH))) (nd aC (nd pX (nd af (lf jR) nl) (lf jE)) (nd af (nd qH (lf j7) nl) (lf mC))))) (nd cz (nd eB (nd eK (nd pP (nd qo (lf jH) nl) (nd qL (lf kj) nl)) (nd qc (nd qA (lf jX) nl) (lf aC))) (nd eS (nd af (nd og (lf jP) nl) (lf jD)) (nd qh (nd af (lf j5) nl) (lf af)))) (nd eH (nd eO (nd pS (nd qr (lf jL) nl) (nd jA (lf ku) nl)) (nd gD (nd gH (lf j1) nl) (lf fI))) (nd fA (nd pY (nd qx (lf jT) nl) (lf fC)) (nd qk (nd qI (lf j9) nl) (lf mF)))))))
noncomputable def H2:Params→BT:=(nd iG (nd iH (nd HT (nd aC (nd aC (nd fB (nd gE (lf mG) (lf af)) (nd qJ (lf kg) nl)) (nd pZ (nd gG (lf jU) nl) (nd fD (lf cz) nl))) (nd eP (nd pT (nd qt (lf jM) nl) (nd jB (lf uN) nl)) (nd qf (nd qD (lf j2) nl) (nd aC (lf uU) nl)))) (nd eC (nd eL (nd pQ (nd qp (lf jI) (lf u0)) (nd qM (lf kl) nl)) (nd af (nd af (lf jY) nl) (nd fG (lf qP) nl))) (nd eT (nd pW (nd qv (lf jQ) nl) (nd el (lf qN) nl)) (nd qi (nd qG (lf j6) nl) (nd mB (lf mK) nl))))) (nd iJ (nd iK (nd eJ (nd af (nd qm (lf jG) (lf uZ)) (nd af (lf ki) nl)) (nd qb (nd qz (lf jW) nl) (nd fF (lf uS) nl))) (nd eR (nd pV (nd qu (lf jO) nl) (nd jC (lf uO) nl)) (nd qg (nd qF (lf j4) nl) (nd mA (lf cz) nl)))) (nd eG (nd eN (nd pR (nd af (lf jK) nl) (nd jz (lf ko) nl)) (nd qe (nd qC (lf j0) nl) (nd iE (lf dD) nl))) (nd FX (nd gC (nd qw (lf jS) nl) (nd jF (lf uR) nl)) (nd qj (nd gI (lf j8) nl) (nd hV (lf uW) nl)))))) (nd o_2 (nd iI (nd af (nd eI (nd pO (nd ql (lf iF) (lf uY)) (nd qK (lf kh) nl)) (nd qa (nd qy (lf jV) nl) (nd fE (lf dD) nl))) (nd eQ (nd pU (nd gF (lf jN) nl) (nd af (lf af) nl)) (nd oa (nd qE (lf j3) nl) (nd fJ (lf qQ) nl)))) (nd eE (nd eM (nd gz (nd qq (lf jJ) (lf u5)) (nd ek (lf km) nl)) (nd qd (nd qB (lf jZ) nl) (nd fH (lf cz) nl))) (nd aC (nd pX (nd af (lf jR) nl) (nd jE (lf uQ) nl)) (nd af (nd qH (lf j7) nl) (nd mC (lf uV) nl))))) (nd cz (nd eB (nd eK (nd pP (nd qo (lf jH) (lf qR)) (nd qL (lf kj) nl)) (nd qc (nd qA (lf jX) nl) (nd aC (lf uT) nl))) (nd eS (nd af (nd og (lf jP) nl) (nd jD (lf uP) nl)) (nd qh (nd af (lf j5) nl) (nd af (lf dD) nl)))) (nd eH (nd eO (nd pS (nd qr (lf jL) nl) (nd jA (lf ku) nl)) (nd gD (nd gH (lf j1) nl) (nd fI (lf mJ) nl))) (nd fA (nd pY (nd qx (lf jT) nl) (nd fC (lf qO) nl)) (nd qk (nd qI (lf j9) nl) (nd mF (lf uX) nl)))))))
noncomputable def H3:Params→BT:=(nd iG (nd iH (nd HU (nd aC (nd aC (nd fB (nd gE (nd mG (lf zb) nl) (nd af (lf zZ) nl)) (nd qJ (nd kg (lf zB) nl) (lf vj))) (nd pZ (nd gG (nd jU (lf af) nl) (lf yB)) (nd fD (nd cz (lf zM) nl) (lf af)))) (nd eP (nd pT (nd qt (nd jM (lf zh) nl) (lf u7)) (nd jB (nd uN (lf af) nl) (lf yS))) (nd qf (nd qD (nd j2 (lf vz) nl) (lf yH)) (nd aC (nd uU (lf zS) nl) (lf y5))))) (nd eC (nd eL (nd pQ (nd qp (nd jI (lf af) nl) (lf u0)) (nd qM (nd kl (lf vB) nl) (lf af))) (nd af (nd af (nd jY (lf zq) nl) (lf yE)) (nd fG (nd qP (lf zP) nl) (lf y0)))) (nd eT (nd pW (nd qv (nd jQ (lf vw) nl) (lf vf)) (nd el (nd qN (lf zJ) nl) (lf vl))) (nd qi (nd qG (nd j6 (lf af) nl) (lf yK)) (nd mB (nd mK (lf zV) nl) (lf y8)))))) (nd iJ (nd iK (nd eJ (nd af (nd qm (nd jG (lf zd) nl) (nd uZ (lf vH) nl)) (nd af (nd ki (lf zD) nl) (lf yO))) (nd qb (nd qz (nd jW (lf zo) nl) (lf vg)) (nd fF (nd uS (lf vD) nl) (lf yZ)))) (nd eR (nd pV (nd qu (nd jO (lf zj) nl) (lf vd)) (nd jC (nd uO (lf zI) nl) (lf yU))) (nd qg (nd qF (nd j4 (lf zw) nl) (lf yI)) (nd mA (nd cz (lf zT) nl) (lf vn))))) (nd eG (nd eN (nd pR (nd af (nd jK (lf zg) nl) (lf aC)) (nd jz (nd ko (lf zF) nl) (lf yR))) (nd qe (nd qC (nd j0 (lf zr) nl) (lf af)) (nd iE (nd dD (lf af) nl) (lf y4)))) (nd FY (nd gC (nd qw (nd jS (lf zl) nl) (lf yA)) (nd jF (nd uR (lf zL) nl) (lf yW))) (nd qj (nd gI (nd j8 (lf zA) nl) (lf yL)) (nd hV (nd uW (lf zX) nl) (lf af))))))) (nd o_2 (nd iI (nd af (nd eI (nd pO (nd ql (nd iF (lf zc) nl) (nd uY (lf vG) nl)) (nd qK (nd kh (lf zC) nl) (lf yN))) (nd qa (nd qy (nd jV (lf vy) nl) (lf yC)) (nd fE (nd dD (lf zN) nl) (lf yY)))) (nd eQ (nd pU (nd gF (nd jN (lf zi) nl) (lf aC)) (nd af (nd af (lf zH) nl) (lf yT))) (nd oa (nd qE (nd j3 (lf zv) nl) (lf vi)) (nd fJ (nd qQ (lf vE) nl) (lf y6))))) (nd eE (nd eM (nd gz (nd qq (nd jJ (lf zf) nl) (lf u5)) (nd ek (nd km (lf zE) nl) (lf yQ))) (nd qd (nd qB (nd jZ (lf af) nl) (lf yF)) (nd fH (nd cz (lf zQ) nl) (lf y2)))) (nd aC (nd pX (nd af (nd jR (lf zk) nl) (lf yz)) (nd jE (nd uQ (lf zK) nl) (lf yV))) (nd af (nd qH (nd j7 (lf zy) nl) (lf af)) (nd mC (nd uV (lf zW) nl) (lf za)))))) (nd cz (nd eB (nd eK (nd pP (nd qo (nd jH (lf ze) nl) (lf qR)) (nd qL (nd kj (lf af) nl) (lf yP))) (nd qc (nd qA (nd jX (lf zp) nl) (lf yD)) (nd aC (nd uT (lf zO) nl) (lf vm)))) (nd eS (nd af (nd og (nd jP (lf af) nl) (lf ve)) (nd jD (nd uP (lf vC) nl) (lf af))) (nd qh (nd af (nd j5 (lf zx) nl) (lf yJ)) (nd af (nd dD (lf zU) nl) (lf y7))))) (nd eH (nd eO (nd pS (nd qr (nd jL (lf vq) nl) (lf u6)) (nd jA (nd ku (lf zG) nl) (lf vk))) (nd gD (nd gH (nd j1 (lf zu) nl) (lf yG)) (nd fI (nd mJ (lf zR) nl) (lf af)))) (nd fA (nd pY (nd qx (nd jT (lf zm) nl) (lf af)) (nd fC (nd qO (lf af) nl) (lf yX))) (nd qk (nd qI (nd j9 (lf vA) nl) (lf yM)) (nd mF (nd uX (lf zY) nl) (lf vp))))))))
noncomputable def Fj:Params→BT:=(nd iG (nd iH (nd o_3 (nd aC (nd aC (nd fB (nd gE (nd mG (lf zb) nl) (nd af (lf zZ) nl)) (nd qJ (nd kg (lf zB) nl) (nd vj (lf E5) nl))) (nd pZ (nd gG (nd jU (lf af) nl) (nd yB (lf EP) nl)) (nd fD (nd cz (lf zM) nl) (nd af (lf CV) nl)))) (nd eP (nd pT (nd qt (nd jM (lf zh) nl) (nd u7 (lf EJ) nl)) (nd jB (nd uN (lf af) nl) (nd yS (lf E9) nl))) (nd qf (nd qD (nd j2 (lf vz) nl) (nd yH (lf EW) nl)) (nd aC (nd uU (lf zS) nl) (lf y5))))) (nd eC (nd eL (nd pQ (nd qp (nd jI (lf af) nl) (nd u0 (lf af) nl)) (nd qM (nd kl (lf vB) nl) (nd af (lf E8) nl))) (nd af (nd af (nd jY (lf zq) nl) (nd yE (lf ET) nl)) (nd fG (nd qP (lf zP) nl) (lf y0)))) (nd eT (nd pW (nd qv (nd jQ (lf vw) nl) (nd vf (lf EM) nl)) (nd el (nd qN (lf zJ) nl) (nd vl (lf z6) nl))) (nd qi (nd qG (nd j6 (lf af) nl) (nd yK (lf EY) nl)) (nd mB (nd mK (lf zV) nl) (lf y8)))))) (nd iJ (nd iK (nd eJ (nd af (nd qm (nd jG (lf zd) nl) (nd uZ (lf vH) nl)) (nd af (nd ki (lf zD) nl) (nd yO (lf E6) nl))) (nd qb (nd qz (nd jW (lf zo) nl) (nd vg (lf af) nl)) (nd fF (nd uS (lf vD) nl) (nd yZ (lf Ff) nl)))) (nd eR (nd pV (nd qu (nd jO (lf zj) nl) (nd vd (lf EL) nl)) (nd jC (nd uO (lf zI) nl) (nd yU (lf af) nl))) (nd qg (nd qF (nd j4 (lf zw) nl) (nd yI (lf CR) nl)) (nd mA (nd cz (lf zT) nl) (lf vn))))) (nd eG (nd eN (nd pR (nd af (nd jK (lf zg) nl) (nd aC (lf EI) nl)) (nd jz (nd ko (lf zF) nl) (nd yR (lf CT) nl))) (nd qe (nd qC (nd j0 (lf zr) nl) (nd af (lf EU) nl)) (nd iE (nd dD (lf af) nl) (lf y4)))) (nd FZ (nd gC (nd qw (nd jS (lf zl) nl) (nd yA (lf CP) nl)) (nd jF (nd uR (lf zL) nl) (nd yW (lf Fd) nl))) (nd qj (nd gI (nd j8 (lf zA) nl) (nd yL (lf af) nl)) (nd hV (nd uW (lf zX) nl) (lf af))))))) (nd o_2 (nd iI (nd af (nd eI (nd pO (nd ql (nd iF (lf zc) nl) (nd uY (lf vG) nl)) (nd qK (nd kh (lf zC) nl) (nd yN (lf CS) nl))) (nd qa (nd qy (nd jV (lf vy) nl) (nd yC (lf ER) nl)) (nd fE (nd dD (lf zN) nl) (nd yY (lf Fe) nl)))) (nd eQ (nd pU (nd gF (nd jN (lf zi) nl) (nd aC (lf EK) nl)) (nd af (nd af (lf zH) nl) (nd yT (lf Fb) nl))) (nd oa (nd qE (nd j3 (lf zv) nl) (nd vi (lf af) nl)) (nd fJ (nd qQ (lf vE) nl) (lf y6))))) (nd eE (nd eM (nd gz (nd qq (nd jJ (lf zf) nl) (nd u5 (lf EH) nl)) (nd ek (nd km (lf zE) nl) (nd yQ (lf af) nl))) (nd qd (nd qB (nd jZ (lf af) nl) (nd yF (lf CQ) nl)) (nd fH (nd cz (lf zQ) nl) (lf y2)))) (nd aC (nd pX (nd af (nd jR (lf zk) nl) (nd yz (lf EN) nl)) (nd jE (nd uQ (lf zK) nl) (nd yV (lf Fc) nl))) (nd af (nd qH (nd j7 (lf zy) nl) (nd af (lf EZ) nl)) (nd mC (nd uV (lf zW) nl) (lf za)))))) (nd cz (nd eB (nd eK (nd pP (nd qo (nd jH (lf ze) nl) (nd qR (lf EG) nl)) (nd qL (nd kj (lf af) nl) (nd yP (lf E7) nl))) (nd qc (nd qA (nd jX (lf zp) nl) (nd yD (lf ES) nl)) (nd aC (nd uT (lf zO) nl) (lf vm)))) (nd eS (nd af (nd og (nd jP (lf af) nl) (nd ve (lf af) nl)) (nd jD (nd uP (lf vC) nl) (nd af (lf CU) nl))) (nd qh (nd af (nd j5 (lf zx) nl) (nd yJ (lf EX) nl)) (nd af (nd dD (lf zU) nl) (lf y7))))) (nd eH (nd eO (nd pS (nd qr (nd jL (lf vq) nl) (nd u6 (lf CO) nl)) (nd jA (nd ku (lf zG) nl) (nd vk (lf z4) nl))) (nd gD (nd gH (nd j1 (lf zu) nl) (nd yG (lf EV) nl)) (nd fI (nd mJ (lf zR) nl) (lf af)))) (nd fA (nd pY (nd qx (nd jT (lf zm) nl) (nd af (lf EO) nl)) (nd fC (nd qO (lf af) nl) (nd yX (lf af) nl))) (nd qk (nd qI (nd j9 (lf vA) nl) (nd yM (lf E0) nl)) (nd mF (nd uX (lf zY) nl) (lf vp))))))))
noncomputable abbrev H7 (P:Params) (os:OsState):SharedT:=⟨F0 P,28,{},#[],{},276,os⟩
noncomputable abbrev H9 (P:Params) (os:OsState):SharedT:=⟨HV P,32,{},#[],{},282,os⟩
noncomputable abbrev Ia:Pos:=⟨0,0,0,0⟩
noncomputable abbrev Ib (P:Params) (os:OsState):SharedT:=⟨JV P,32,{},#[],{},282,os⟩
noncomputable abbrev Ic:Pos:=⟨0,0,0,0⟩
noncomputable abbrev rO (P:Params) (os:OsState):SharedT:=⟨HW P,110,{},#[],{},432,os⟩
noncomputable abbrev rP:Pos:=⟨143,0,143,8⟩
noncomputable abbrev rQ (P:Params) (os:OsState):SharedT:=⟨HX P,121,{},#[],{},492,os⟩
noncomputable abbrev rR:Pos:=⟨144,0,144,6⟩
noncomputable abbrev vI (P:Params) (os:OsState):SharedT:=⟨Fi P,128,{},#[],{},499,os⟩
noncomputable abbrev z8:Pos:=⟨145,0,146,30⟩
noncomputable abbrev F7 (P:Params) (os:OsState):SharedT:=⟨HY P,167,{},#[],{},2449,os⟩
noncomputable abbrev vJ (P:Params) (os:OsState):SharedT:=⟨HZ P,167,{},#[],{},2450,os⟩
noncomputable abbrev vK:Pos:=⟨147,0,147,13⟩
noncomputable abbrev Fl (P:Params) (os:OsState):SharedT:=⟨H2 P,197,{},#[],{},2564,os⟩
noncomputable abbrev Fn:Pos:=⟨157,0,165,20⟩
noncomputable abbrev Fo (P:Params) (os:OsState):SharedT:=⟨H3 P,322,{},#[],{},2721,os⟩
noncomputable abbrev Fp:Pos:=⟨166,0,247,93⟩
noncomputable abbrev vL (P:Params) (os:OsState):SharedT:=⟨Fj P,370,{},#[],{},2793,os⟩
noncomputable abbrev Fq:Pos:=⟨328,0,348,15⟩
end Mine
end
section
namespace Mine
set_option maxHeartbeats 0
noncomputable abbrev pg:Program:=PySem.Challenge.pw_tc0096_01
noncomputable def fK:Env:={ scope:=pg.main.scope,locals:=mainNs,globals:=mainNs,cells:=[],code:=.ref 30,frame:=some 31 }
noncomputable def cE:Code:=.body (behindTheImports pg) fK
noncomputable def cL:Option Value:=some (.ref 6)
noncomputable def bodyT:List Stmt:=behindTheImports pg
noncomputable def g1:List Stmt:=bodyT.take 16
noncomputable def g2:List Stmt:=(bodyT.drop 16).take 1
noncomputable def g3:List Stmt:=(bodyT.drop 17).take 1
noncomputable def g4:List Stmt:=(bodyT.drop 18).take 1
noncomputable def g5:List Stmt:=(bodyT.drop 19).take 6
noncomputable def g6:List Stmt:=(bodyT.drop 25).take 1
noncomputable def g7:List Stmt:=(bodyT.drop 26).take 9
noncomputable abbrev p0:Pos:=⟨0,0,0,0⟩
noncomputable abbrev gJ:=@PySem.W.Fast.tw10110043849684766642
noncomputable abbrev tB:=@PySem.W.Fast.tw15667345088766844465
noncomputable abbrev vM:=@PySem.W.Fast.tw14082659384304107361
noncomputable abbrev Ie:=@PySem.W.Fast.tw11892475500146522536
noncomputable abbrev fb:=PySem.W.Fast.tw14364793385576792824
theorem tC:bodyT=g1++(g2++(g3++(g4++(g5++(g6++(g7++[])))))):=by kernel_rfl
theorem JW (w:World) (os:OsState):tB fb pg w 28 cL 12 (H7 w.params os).abs (topStub pg)=some ((H9 w.params os).abs,⟨Ie fb cE,cE,Ia,[topFrame p0]⟩):=by
 kernel_rfl
theorem JX (w:World) (os:OsState):gJ fb pg w 28 cL 1 2 (H9 w.params os) (blockOf bodyT fK cE Ia [topFrame p0])=some (Flow.next,Ib w.params os,cE,Ic):=by
 kernel_rfl
theorem JY (w:World) (os:OsState):gJ fb pg w 28 cL 1 461 (Ib w.params os) (piecesOf g1 fK cE Ic [topFrame p0])=some (Flow.next,rO w.params os,cE,rP):=by
 kernel_rfl
theorem JZ (w:World) (os:OsState):gJ fb pg w 28 cL 1 31 (rQ w.params os) (piecesOf g3 fK cE rR [topFrame p0])=some (Flow.next,vI w.params os,cE,z8):=by
 kernel_rfl
theorem J0 (w:World) (os:OsState):gJ fb pg w 28 cL 1 310 (vJ w.params os) (piecesOf g5 fK cE vK [topFrame p0])=some (Flow.next,Fl w.params os,cE,Fn):=by
 kernel_rfl
theorem J1 (w:World) (os:OsState):gJ fb pg w 28 cL 1 260 (Fo w.params os) (piecesOf g7 fK cE Fp [topFrame p0])=some (Flow.next,vL w.params os,cE,Fq):=by
 kernel_rfl
theorem J2 (w:World) (os:OsState):vM fb pg w 28 cL 2 (vL w.params os).abs ⟨doneF Flow.next,cE,Fq,[topFrame p0]⟩=some (vL w.params os).abs:=by
 kernel_rfl
end Mine
end
section
namespace Mine
set_option maxHeartbeats 0
theorem J3 (w:World):∀ os:OsState,gJ fb pg w 28 cL 1 1000 (rO w.params os) (piecesOf g2 fK cE rP [topFrame p0])=some (Flow.next,rQ w.params os,cE,rR):=by
 refine byRow2 "set-order" (P:=fun w=>∀ os:OsState,gJ fb pg w 28 cL 1 1000 (rO w.params os) (piecesOf g2 fK cE rP [topFrame p0])=some (Flow.next,rQ w.params os,cE,rR)) (fun w=>?_) (fun w=>?_) w
 ·refine byRow2 "special-get-raises" (P:=fun w=>∀ os:OsState,gJ fb pg (w.withFollow "set-order" false) 28 cL 1 1000 (rO (w.withFollow "set-order" false).params os) (piecesOf g2 fK cE rP [topFrame p0])=some (Flow.next,rQ (w.withFollow "set-order" false).params os,cE,rR)) (fun w=>?_) (fun w=>?_) w
  ·intro os;kernel_rfl
  ·intro os;kernel_rfl
 ·refine byRow2 "special-get-raises" (P:=fun w=>∀ os:OsState,gJ fb pg (w.withFollow "set-order" true) 28 cL 1 1000 (rO (w.withFollow "set-order" true).params os) (piecesOf g2 fK cE rP [topFrame p0])=some (Flow.next,rQ (w.withFollow "set-order" true).params os,cE,rR)) (fun w=>?_) (fun w=>?_) w
  ·intro os;kernel_rfl
  ·intro os;kernel_rfl
end Mine
end
section
namespace Mine
set_option maxHeartbeats 0
theorem J4 (w:World) (os:OsState):gJ fb pg w 28 cL 1 730 (Fl w.params os) (piecesOf g6 fK cE Fn [topFrame p0])=some (Flow.next,Fo w.params os,cE,Fp):=by
 kernel_rfl
end Mine
end
section
namespace Mine
def Goes (p:Program) (w:World) (n₀:Nat) (ann:Option Value) (B:List Frame) (cd:Code) {α:Type} (k:Nat) (x:Sem α) (q:Pos) (s:Shared) (q':Pos) (s':Shared) (a:α):Prop :=
 ∀ (K : α → Sem Fin) (H : Value → Sem Fin) (gd : Bool → Bool) (lv : List Value → List Value) (N : Nat) (r : Shared),
  topRun treeTable p w n₀ ann N s' ⟨K a,cd,q',B⟩=some r→topRun treeTable p w n₀ ann (N + k) s ⟨x.wrap K H gd lv,cd,q,B⟩=some r
section
variable {p:Program} {w:World} {n₀:Nat} {ann:Option Value} {B:List Frame} {cd:Code} {α β:Type}
theorem fc {N:Nat} {s s' r:Shared} {t t':Thread} (h1:through t=false) (h2:stepOk n₀ ann t=true) (h3:step (denote treeTable) p w s t=.go s' t')
  (h:topRun treeTable p w n₀ ann N s' t'=some r):topRun treeTable p w n₀ ann (N + 1) s t=some r:=by
 unfold topRun
 rw [h1,h2,h3]
 exact h
theorem ai (a:α) (q:Pos) (s:Shared):Goes p w n₀ ann B cd 0 (pure a) q s q s a:=fun K H gd lv N r h=>h
theorem bD {k j:Nat} {x:Sem α} {q q':Pos} {s s':Shared} {a:α} (h:Goes p w n₀ ann B cd k x q s q' s' a) (e:k≤j):Goes p w n₀ ann B cd j x q s q' s' a:=fun K H gd lv N r hr=>by
 have:=topRun_mono (j - k) _ _ _ _ (h K H gd lv N r hr)
 rwa [show N + k + (j - k)=N + j by lia] at this
theorem ag {k j:Nat} {x:Sem α} {f:α→Sem β} {q q₁ q':Pos} {s s₁ s':Shared} {a:α} {b:β} (h:Goes p w n₀ ann B cd k x q s q₁ s₁ a)
  (h':Goes p w n₀ ann B cd j (f a) q₁ s₁ q' s' b):Goes p w n₀ ann B cd (k + j) (x >>= f) q s q' s' b:=fun K H gd lv N r hr=>by
 rw [Sem.bind_eq_wrap',Sem.wrap_wrap,show N + (k + j)=N + j + k by lia]
 exact h _ _ _ _ _ _ (h' K H gd lv N r hr)
theorem xe {k:Nat} {x:Sem α} {q q':Pos} {s s':Shared} {a:α} (vs:List Value) (h:Goes p w n₀ ann B cd k x q s q' s' a):Goes p w n₀ ann B cd k (x.keep vs) q s q' s' a:=fun K H gd lv N r hr=>by
 rw [Sem.keep_eq_wrap,Sem.wrap_wrap]
 exact h _ _ _ _ _ _ hr
theorem aE {k:Nat} {x:Sem α} {q q':Pos} {s s':Shared} {a:α} (vs:List Value) (h:Goes p w n₀ ann B cd k x q s q' s' a):Goes p w n₀ ann B cd k (holding vs x) q s q' s' a:=by
 unfold holding
 split
 ·exact h
 ·exact xe _ h
theorem qS {k:Nat} {x:Sem α} {q q':Pos} {s s':Shared} {a:α} (f:Value→Sem Unit) (h:Goes p w n₀ ann B cd k x q s q' s' a):Goes p w n₀ ann B cd k (x.onRaise f) q s q' s' a:=fun K H gd lv N r hr=>by
 rw [Sem.onRaise_eq_wrap,Sem.wrap_wrap]
 exact h _ _ _ _ _ _ hr
theorem cM {x:Sem α} {q q':Pos} {s s':Shared} {a:α} (h:∀ (K:α→Sem Fin) (H:Value→Sem Fin) (gd:Bool→Bool) (lv:List Value→List Value),
  through ⟨x.wrap K H gd lv,cd,q,B⟩=false∧stepOk n₀ ann ⟨x.wrap K H gd lv,cd,q,B⟩=true∧step (denote treeTable) p w s ⟨x.wrap K H gd lv,cd,q,B⟩=.go s' ⟨K a,cd,q',B⟩) :
  Goes p w n₀ ann B cd 1 x q s q' s' a:=fun K H gd lv N r hr=>fc (h K H gd lv).1 (h K H gd lv).2.1 (h K H gd lv).2.2 hr
theorem oJ (t:String) (q:Pos) (s:Shared):Goes p w n₀ ann B cd 1 (rule t) q s q s ():=cM fun K H gd lv=>by
 obtain ⟨hp,g,d,n,o⟩:=s
 refine ⟨?_,rfl,rfl⟩
 cases B <;> rfl
theorem qT (q' q:Pos) (s:Shared):Goes p w n₀ ann B cd 1 (standAt q') q s q' s ():=cM fun K H gd lv=>by
 obtain ⟨hp,g,d,n,o⟩:=s
 refine ⟨?_,rfl,rfl⟩
 cases B <;> rfl
theorem mM (q:Pos) (hp:Heap) (g:Array GenState) (d:Drawn) (n:Nat) (o:OsState):Goes p w n₀ ann B cd 1 fresh q ⟨hp,g,d,n,o⟩ q ⟨hp,g,d,n + 1,o⟩ n:=cM fun K H gd lv=>by
 refine ⟨?_,rfl,rfl⟩
 cases B <;> rfl
theorem tD (x:Obj) (q:Pos) (hp:Heap) (g:Array GenState) (d:Drawn) (n:Nat) (o:OsState):Goes p w n₀ ann B cd 1 (alloc x) q ⟨hp,g,d,n,o⟩ q ⟨hp.push x,g,d,n,o⟩ hp.objs.size:=cM fun K H gd lv=>by
 refine ⟨?_,rfl,rfl⟩
 cases B <;> rfl
theorem br {a:Addr} {x:Obj} {hp:Heap} {g:Array GenState} {d:Drawn} {n:Nat} {o:OsState} (part:Option Value) (q:Pos) (e:hp.get? a=some x):Goes p w n₀ ann B cd 1 (loadPart a part) q ⟨hp,g,d,n,o⟩ q ⟨hp,g,d,n,o⟩ x:=cM fun K H gd lv=>by
 refine ⟨?_,rfl,?_⟩
 ·cases B <;> rfl
 ·show (match hp.get? a with | some x=>Step.go _ ⟨_,_,_,_⟩ | none=>_)=_
  rw [e];rfl
theorem rS {a:Addr} {x:Obj} {hp:Heap} {g:Array GenState} {d:Drawn} {n:Nat} {o:OsState} (part:Option Value) (f:Obj→Obj) (q:Pos) (e:hp.get? a=some x) (ha:Nat.ble n₀ a=true):Goes p w n₀ ann B cd 1 (updatePart a part f) q ⟨hp,g,d,n,o⟩ q ⟨hp.update a f,g,d,n,o⟩ ():=cM fun K H gd lv=>by
 refine ⟨?_,?_,?_⟩
 ·cases B <;> rfl
 ·show (true && (Nat.ble n₀ a || a==mainNs || a==cStatics || ann==some (.ref a)))=true
  rw [ha];rfl
 ·show (if (hp.get? a).isSome then _ else _)=_
  rw [e];rfl
theorem xf {k:Nat} {f:Setting→Sem α} {q q':Pos} {s s':Shared} {a:α} (h:Goes p w n₀ ann B cd k (f ⟨p,w.params⟩) q s q' s' a):Goes p w n₀ ann B cd (k + 1) (Sem.ask f) q s q' s' a:=fun K H gd lv N r hr=>by
 obtain ⟨hp,g,d,n,o⟩:=s
 exact fc (t:=⟨Sem.ask fun x=>(f x).wrap K H gd lv,cd,q,B⟩) (by cases B <;> rfl) rfl rfl (h K H gd lv N r hr)
theorem z9 (i:Int) (t:Tok):denote treeTable (.builtin "int.__hash__" ⟨[.int i t],[]⟩)=(do ret (← mkInt (rawHash i)):Sem Fin):=by
 have e:=entry_int_hash
 rw [table_eq_tree] at e
 simp only [denote,e]
 rfl
theorem tE:String.startsWith "int.__hash__" "lifetime."=false:=by decide +kernel
theorem tF {i:Int} {t:Tok} {k:Nat} {kk:Result→Sem α} {l:List Value} {q q':Pos} {hp:Heap} {g:Array GenState} {d:Drawn} {n:Nat} {o:OsState} {s':Shared} {a:α} (hi:rawHash i=i)
  (h:Goes p w n₀ ann B cd k (kk (.ok (.ret (.int i n)))) q ⟨hp,g,d,n + 1,o⟩ q' s' a) :
  Goes p w n₀ ann B cd (k + 4) (Sem.call (.call (.builtin "int.__hash__") ⟨[.int i t],[]⟩) none false l kk) q ⟨hp,g,d,n,o⟩ q' s' a:=fun K H gd lv N r hr=>by
 refine fc (N:=N + k + 3) (s':=⟨hp,g,d,n,o⟩) (t':=⟨.pure (.again (.builtin "int.__hash__" ⟨[.int i t],[]⟩)),.call (.builtin "int.__hash__") ⟨[.int i t],[]⟩,q,_::B⟩) (by cases B <;> rfl) rfl rfl ?_
 refine fc (N:=N + k + 2) (s':=⟨hp,g,d,n,o⟩) (t':=⟨(do ret (← mkInt (rawHash i)):Sem Fin),.builtin "int.__hash__" ⟨[.int i t],[]⟩,q,_::B⟩) rfl (by show ((!(String.startsWith "int.__hash__" "lifetime.") || _) && true && true && true)=true;rw [tE];rfl) (by rw [← z9 i t];rfl) ?_
 refine fc (N:=N + k + 1) (s':=⟨hp,g,d,n + 1,o⟩) (t':=⟨.pure (.done (.ret (.int i n))),.builtin "int.__hash__" ⟨[.int i t],[]⟩,q,_::B⟩) rfl rfl (by rw [hi];rfl) ?_
 refine fc (N:=N + k) (s':=⟨hp,g,d,n + 1,o⟩) (t':=⟨(kk (.ok (.ret (.int i n)))).wrap K H gd lv,cd,q,B⟩) rfl rfl rfl ?_
 exact h K H gd lv N r hr
theorem xg {i:Int} {t:Tok} {hp:Heap} {g:Array GenState} {d:Drawn} {n:Nat} {o:OsState} (h0:0≤i) (h1:i < 2 ^ 60) (q:Pos) :
  Goes p w n₀ ann B cd 5 (pyHash (.int i t)) q ⟨hp,g,d,n,o⟩ q ⟨hp,g,d,n + 1,o⟩ i:=by
 have hi:rawHash i=i:=by
  unfold rawHash;simp;lia
 refine xf ?_
 have hr:pyHashByItsType.reduced i=pure i:=by
  unfold pyHashByItsType.reduced
  rw [if_pos (by simp;lia),if_neg (by simp;lia)]
 cases hf:w.params.followText "special-get-raises" <;> simp only [Sem.bind,hf,if_true,if_false,Bool.false_eq_true] <;> refine tF hi ?_ <;> (show Goes _ _ _ _ _ _ 0 (pyHashByItsType.reduced i) _ _ _ _ _) <;> rw [hr] <;> exact ai _ _ _
end
structure oh (c:Addr) (f:List DictEntry→Heap):Prop where
 get:∀ es,(f es).get? c=some (aB es)
 put:∀ es e,(f es).update c (Obj.mapDictKeys (·.push e))=f (es++[e])
noncomputable abbrev St (h:Heap) (g:Array GenState) (d:Drawn) (n:Nat) (o:OsState):Shared:=⟨h,g,d,n,o⟩
section
variable {p:Program} {w:World} {n₀:Nat} {ann:Option Value} {B:List Frame} {cd:Code} {α β:Type} {g:Array GenState} {d:Drawn} {n:Nat} {o:OsState} {c:Addr} {f:List DictEntry→Heap} {es:List DictEntry}
theorem fL {k:Nat} {x y:Sem α} {q q':Pos} {s s':Shared} {a:α} (e:x=y) (h:Goes p w n₀ ann B cd k y q s q' s' a):Goes p w n₀ ann B cd k x q s q' s' a:=e▸h
theorem qU (S:oh c f) (part:Option Value) (q:Pos):Goes p w n₀ ann B cd 1 (dictEntries c part) q (St (f es) g d n o) q (St (f es) g d n o) es.toArray :=
 ag (k:=1) (j:=0) (br part q (S.get es)) (ai _ _ _)
theorem tG {es:List DictEntry} {h:Int} (hh:∀ e∈es,e.hash≠h):placesWithHash es.toArray.size (fun i=>es.toArray[i]?.map (·.hash)) h=[]:=by
 unfold placesWithHash
 rw [List.filter_eq_nil_iff]
 intro i hi
 simp only [List.getElem?_toArray,beq_iff_eq,Option.map_eq_some_iff,not_exists,not_and]
 intro e he
 exact hh e (List.mem_of_getElem? he)
theorem gK (S:oh c f) {i:Int} {t:Tok} (hh:∀ e∈es,e.hash≠i) (q:Pos):Goes p w n₀ ann B cd 1 (dictFind c (.int i t) i) q (St (f es) g d n o) q (St (f es) g d n o) none:=by
 unfold dictFind
 refine aE _ (ag (k:=1) (j:=0) (qU S _ q) ?_)
 simp only [tG hh]
 exact ai _ _ _
theorem rU (S:oh c f) {e:DictEntry} (hn:es.length < 2 ^ 20) (ha:Nat.ble n₀ c=true) (part:Option Value) (q:Pos):Goes p w n₀ ann B cd 3 (updateDictKeys c (·.push e) part) q (St (f es) g d n o) q (St (f (es++[e])) g d n o) ():=by
 unfold updateDictKeys
 refine ag (k:=1) (j:=2) (br part q (S.get es)) ?_
 refine ag (k:=1) (j:=1) (q₁:=q) (s₁:=St (f (es++[e])) g d n o) (a:=()) ?_ ?_
 ·have:=rS (p:=p) (w:=w) (ann:=ann) (B:=B) (cd:=cd) (g:=g) (d:=d) (n:=n) (o:=o) part (Obj.mapDictKeys (·.push e)) q (S.get es) ha
  rw [S.put] at this
  exact this
 ·unfold lookBehind
  refine ag (k:=1) (j:=0) (br part q (S.get (es++[e]))) ?_
  have:(aB (es++[e])).data.pastItsLine=none:=by
   show (if (es++[e]).toArray.size > sizeLine + 1 then _ else none)=none
   rw [if_neg]
   simp only [List.size_toArray,List.length_append,List.length_cons,List.length_nil]
   have:sizeLine=2 ^ 24:=rfl
   lia
  rw [this]
  exact ai _ _ _
theorem lZ (S:oh c f) {i:Int} {t:Tok} {v:Value} (h0:0≤i) (h1:i < 2 ^ 60) (hh:∀ e∈es,e.hash≠i) (hn:es.length < 2 ^ 20) (ha:Nat.ble n₀ c=true) (q:Pos) :
  Goes p w n₀ ann B cd 10 (dictSet c (.int i t) v) q (St (f es) g d n o) q (St (f (es++[⟨i,.int i t,v⟩])) g d (n + 1) o) ():=by
 unfold dictSet
 refine aE _ (ag (k:=5) (j:=5) (xg h0 h1 q) ?_)
 unfold dictSetHashed
 refine aE _ (ag (k:=1) (j:=4) (gK S hh q) ?_)
 exact ag (k:=1) (j:=3) (oJ _ _ _) (rU S hn ha _ q)
theorem rV (S:oh c f) {i:Int} {t:Tok} {v:Value} (hh:∀ e∈es,e.hash≠i) (hn:es.length < 2 ^ 20) (ha:Nat.ble n₀ c=true) (q:Pos) :
  Goes p w n₀ ann B cd 4 (dictPut c i (.int i t) v) q (St (f es) g d n o) q (St (f (es++[⟨i,.int i t,v⟩])) g d n o) ():=by
 unfold dictPut
 exact ag (k:=1) (j:=3) (gK S hh q) (rU S hn ha _ q)
end
noncomputable abbrev d4 (x:Int×Str):Sem Value:=mkInt x.1
noncomputable abbrev d5 (pos:Pos) (x:Int×Str):Sem Value:=do let y ← mkText x.2;standAt pos;pure y
theorem l4:∀ (n:Nat) (R:List (Int×Str)),(ly n R).length=R.length
 | _,[]=>rfl
 | n,x::r=>by simp [ly,l4 (n + 3) r]
theorem l5:∀ (n:Nat) (R:List (Int×Str)),(lz n R).length=R.length
 | _,[]=>rfl
 | n,x::r=>by simp [lz,l5 (n + 2) r]
def Rise:Int→List Int→Prop
 | _,[]=>True
 | lo,k::r=>lo < k∧k < 2 ^ 60∧Rise k r
noncomputable def oK:Int→List Int→Bool
 | _,[]=>true
 | lo,k::r=>decide (lo < k) && decide (k < 2 ^ 60) && oK k r
theorem vN:∀ {lo:Int} {l:List Int},oK lo l=true→Rise lo l:=by
 intro lo zz
 induction zz generalizing lo with
 | nil =>
  intro _
  exact trivial
 | cons k r ih =>
  intro h
  simp only [oK,Bool.and_eq_true,decide_eq_true_eq] at h
  exact ⟨h.1.1,h.1.2,ih h.2⟩
theorem Rise.app:∀ {lo:Int} {l l':List Int},Rise lo (l++l')→Rise lo l∧Rise (l.getLastD lo) l':=by
 intro lo zz
 induction zz generalizing lo with
 | nil =>
  intro l' h
  exact ⟨trivial,h⟩
 | cons k r ih =>
  intro l' h
  have:=ih h.2.2
  refine ⟨⟨h.1,h.2.1,this.1⟩,?_⟩
  rw [List.getLastD_cons]
  exact this.2
abbrev Under (hi:Int) (es:List DictEntry):Prop:=∀ e∈es,e.hash≤hi
section
variable {p:Program} {w:World} {n₀:Nat} {ann:Option Value} {B:List Frame} {cd:Code} {α β:Type} {g:Array GenState} {d:Drawn} {n:Nat} {o:OsState} {c:Addr} {f:List DictEntry→Heap} {es:List DictEntry}
theorem oM (x:Int×Str) (h:Heap) (q:Pos):Goes p w n₀ ann B cd 1 (d4 x) q (St h g d n o) q (St h g d (n + 1) o) (.int x.1 n) :=
 ag (k:=1) (j:=0) (mM q h g d n o) (ai _ _ _)
theorem oN (x:Int×Str) (h:Heap) (pos q:Pos):Goes p w n₀ ann B cd 2 (d5 pos x) q (St h g d n o) pos (St h g d (n + 1) o) (.str x.2 n) :=
 ag (k:=1) (j:=1) (ag (k:=1) (j:=0) (mM q h g d n o) (ai _ _ _)) (ag (k:=1) (j:=0) (qT pos q _) (ai _ _ _))
theorem bo {σ:Type} {b b' b'':σ} {x:β} {l:List β} {F:β→σ→Sem (ForInStep σ)} {k j:Nat} {q q₁ q':Pos} {s s₁ s':Shared} (h:Goes p w n₀ ann B cd k (F x b) q s q₁ s₁ (.yield b'))
  (h':Goes p w n₀ ann B cd j (forIn l b' F) q₁ s₁ q' s' b''):Goes p w n₀ ann B cd (k + j) (forIn (m:=Sem) (x::l) b F) q s q' s' b'' :=
 by rw [List.forIn_cons];exact ag h h'
theorem xh (S:oh c f) (pos:Pos) (ha:Nat.ble n₀ c=true):∀ (R:List (Int×Str)) (lo:Int) (es:List DictEntry) (n:Nat) (q:Pos),0≤lo + 1→Under lo es→Rise lo (R.map (·.1))→es.length + R.length < 2 ^ 20 →
  ∃ q', (R ≠ [] → q' = pos) ∧ (R = [] → q' = q) ∧ Goes p w n₀ ann B cd (13 * R.length) (forIn (m := Sem) (R.map fun x => (d4 x, d5 pos x)) PUnit.unit fun (x : Sem Value × Sem Value) (_ : PUnit) => do
   let kv ← x.1
   let vv ← holding [kv] x.2
   holding [kv,vv] (dictSet c kv vv)
   pure (ForInStep.yield PUnit.unit)) q (St (f es) g d n o) q' (St (f (es++ly n R)) g d (n + 3 * R.length) o) PUnit.unit:=by
 intro zz
 induction zz with
 | nil =>
  intro lo es n q _ _ _ _
  exact ⟨q,fun h=>absurd rfl h,fun _=>rfl,by simpa [ly] using ai _ q _⟩
 | cons x R ih =>
  intro lo es n q h0 hU hR hl
  obtain ⟨r1,r2,r3⟩:=hR
  dsimp only at r1 r2 r3
  have ih:=ih x.1 (es++[⟨x.1,.int x.1 n,.str x.2 (n + 1)⟩]) (n + 3) pos (by lia)
   (fun e he=>by
    rcases List.mem_append.mp he with he | he
    ·exact Int.le_of_lt (Int.lt_of_le_of_lt (hU e he) r1)
    ·rw [List.mem_singleton.mp he];exact Int.le_refl _) r3 (by simp only [List.length_append,List.length_cons,List.length_nil] at hl ⊢; lia)
  obtain ⟨q',z1,z2,G⟩:=ih
  have hq:q'=pos:=by
   by_cases hR:R=[]
   ·exact z2 hR
   ·exact z1 hR
  subst hq
  refine ⟨q',fun _=>rfl,fun h=>absurd h (List.cons_ne_nil _ _),?_⟩
  rw [show 13 * (x::R).length=13 + 13 * R.length by simp only [List.length_cons];lia,show n + 3 * (x::R).length=n + 3 + 3 * R.length by simp only [List.length_cons];lia]
  rw [show es++ly n (x::R)=es++[⟨x.1,.int x.1 n,.str x.2 (n + 1)⟩]++ly (n + 3) R by simp [ly]]
  refine bo (k:=13) ?_ G
  refine ag (k:=1) (j:=12) (oM x _ q) (ag (k:=2) (j:=10) (aE _ (oN x _ q' q)) (ag (k:=10) (j:=0) (aE (a:=()) _ ?_) (ai _ _ _)))
  exact lZ S (by lia) r2 (fun e he=>Int.ne_of_lt (Int.lt_of_le_of_lt (hU e he) r1)) (by simp only [List.length_cons] at hl;lia) ha q'
end
noncomputable abbrev mkH (life:Life) (base:List Obj) (D:Obj) (subs:List Obj):Heap:=⟨(base++D::subs).toArray,life⟩
theorem mQ {α:Type} (f:α→α) (x:α) (subs:List α):∀ base:List α,(base++x::subs).modify base.length f=base++f x::subs:=by
 intro zz
 induction zz with
 | nil =>
  exact rfl
 | cons b base ih =>
  show (b::(base++x::subs)).modify (base.length + 1) f=_
  rw [List.modify_succ_cons,ih];rfl
theorem lA (life:Life) (base subs:List Obj):oh base.length (fun es=>mkH life base (aB es) subs) where
 get es:=by
  unfold mkH Heap.get?
  simp
 put es e:=by
  unfold mkH Heap.update
  simp only [List.modify_toArray,mQ]
  simp [Obj.mapDictKeys]
theorem ky (life:Life) (base subs:List Obj) (D:Obj):oh (base.length + 1 + subs.length) (fun es=>mkH life base D (subs++[aB es])) where
 get es:=by
  have:base++D::(subs++[aB es])=(base++D::subs)++aB es::[]:=by simp
  unfold mkH Heap.get?
  rw [this,show base.length + 1 + subs.length=(base++D::subs).length by simp;lia]
  simp only [List.getElem?_toArray,List.getElem?_concat_length]
 put es e:=by
  have h:∀ es,base++D::(subs++[aB es])=(base++D::subs)++aB es::[]:=by simp
  unfold mkH Heap.update
  rw [h,h,show base.length + 1 + subs.length=(base++D::subs).length by simp;lia]
  simp only [List.modify_toArray,mQ]
  simp [Obj.mapDictKeys]
theorem er (n:Nat) (R:List (Int×Str)):(gi n R).length=R.length:=by
 unfold gi;split
 ·exact l5 n R
 ·exact l4 n R
noncomputable def qW:Nat→List (Int×Str)→List (Value×Value)
 | _,[]=>[]
 | n,x::r=>(.int x.1 n,.str x.2 (n + 1))::qW (n + 2) r
theorem oO:∀ (n:Nat) (R:List (Int×Str)),(ly n R).map (·.hash)=R.map (·.1)
 | _,[]=>rfl
 | n,x::r=>by simp [ly,oO (n + 3) r]
theorem oP:∀ (n:Nat) (R:List (Int×Str)),(lz n R).map (·.hash)=R.map (·.1)
 | _,[]=>rfl
 | n,x::r=>by simp [lz,oP (n + 2) r]
theorem oQ (n:Nat) (R:List (Int×Str)):(gi n R).map (·.hash)=R.map (·.1):=by
 unfold gi;split
 ·exact oP n R
 ·exact oO n R
abbrev Keyed (e:DictEntry):Prop:=∃ t,e.key=.int e.hash t
theorem mS:∀ (n:Nat) (R:List (Int×Str)),∀ e∈ly n R,Keyed e
 | _,[],e,h=>nomatch h
 | n, x :: r, e, h => by
  rcases List.mem_cons.mp h with rfl | h
  ·exact ⟨_,rfl⟩
  ·exact mS (n + 3) r e h
theorem tH:∀ (n:Nat) (R:List (Int×Str)),∀ e∈lz n R,Keyed e:=by
 intro n zz
 induction zz generalizing n with
 | nil =>
  intro e h
  exact nomatch h
 | cons x r ih =>
  intro e h
  rcases List.mem_cons.mp h with rfl | h
  ·exact ⟨_,rfl⟩
  ·exact ih (n + 2) e h
theorem tI (n:Nat) (R:List (Int×Str)):∀ e∈gi n R,Keyed e:=by
 unfold gi;split
 ·exact tH n R
 ·exact mS n R
section
variable {p:Program} {w:World} {n₀:Nat} {ann:Option Value} {B:List Frame} {cd:Code} {α β:Type} {g:Array GenState} {d:Drawn} {n:Nat} {o:OsState} {c:Addr} {f:List DictEntry→Heap} {es:List DictEntry}
theorem mV (h:Heap) (pos:Pos):∀ (R:List (Int×Str)) (n:Nat) (q:Pos),
  ∃ q',Goes p w n₀ ann B cd (3 * R.length) (evalPairs (R.map fun x=>(d4 x,d5 pos x))) q (St h g d n o) q' (St h g d (n + 2 * R.length) o) (qW n R):=by
 intro zz
 induction zz with
 | nil =>
  intro n q
  exact ⟨q,ai _ _ _⟩
 | cons x R ih =>
  intro n q
  obtain ⟨q',G⟩:=ih (n + 2) pos
  refine ⟨q',?_⟩
  rw [show 3 * (x::R).length=1 + (2 + (3 * R.length + 0)) by simp only [List.length_cons];lia,show n + 2 * (x::R).length=n + 2 + 2 * R.length by simp only [List.length_cons];lia]
  exact ag (oM x _ q) (ag (aE _ (oN x _ pos q)) (ag (aE _ G) (ai _ _ _)))
theorem mW (S:oh c f) (ha:Nat.ble n₀ c=true) (q:Pos):∀ (R:List (Int×Str)) (lo:Int) (es:List DictEntry) (n m:Nat),0≤lo + 1→Under lo es→Rise lo (R.map (·.1))→es.length + R.length < 2 ^ 20 →
  Goes p w n₀ ann B cd (10 * R.length) (forIn (m:=Sem) (qW n R) PUnit.unit fun (x:Value×Value) (_:PUnit)=>do
   dictSet c x.1 x.2
   pure (ForInStep.yield PUnit.unit)) q (St (f es) g d m o) q (St (f (es++lz n R)) g d (m + R.length) o) PUnit.unit:=by
 intro zz
 induction zz with
 | nil =>
  intro lo es n m _ _ _ _
  simpa [lz,qW] using ai _ q _
 | cons x R ih =>
  intro lo es n m h0 hU hR hl
  obtain ⟨r1,r2,r3⟩:=hR
  dsimp only at r1 r2 r3
  have G:=ih x.1 (es++[⟨x.1,.int x.1 n,.str x.2 (n + 1)⟩]) (n + 2) (m + 1) (by lia)
   (fun e he=>by
    rcases List.mem_append.mp he with he | he
    ·exact Int.le_of_lt (Int.lt_of_le_of_lt (hU e he) r1)
    ·rw [List.mem_singleton.mp he];exact Int.le_refl _) r3 (by simp only [List.length_append,List.length_cons,List.length_nil] at hl ⊢; lia)
  rw [show 10 * (x::R).length=10 + 10 * R.length by simp only [List.length_cons];lia,show m + (x::R).length=m + 1 + R.length by simp only [List.length_cons];lia]
  rw [show es++lz n (x::R)=es++[⟨x.1,.int x.1 n,.str x.2 (n + 1)⟩]++lz (n + 2) R by simp [lz]]
  refine bo (k:=10) ?_ G
  refine ag (k:=10) (j:=0) (a:=()) ?_ (ai _ _ _)
  exact lZ S (by lia) r2 (fun e he=>Int.ne_of_lt (Int.lt_of_le_of_lt (hU e he) r1)) (by simp only [List.length_cons] at hl;lia) ha q
theorem kz (S:oh c f) {h₀:Heap} (hpush:h₀.push (aB [])=f []) (hsz:h₀.objs.size=c) (pos:Pos) (ha:Nat.ble n₀ c=true) (R:List (Int×Str)) (lo:Int) (n:Nat) (q:Pos) (h0:0≤lo + 1) (hR:Rise lo (R.map (·.1))) (hl:R.length < 2 ^ 20) :
  ∃ q',Goes p w n₀ ann B cd (13 * R.length + 2) (subDict (R.map fun x=>(d4 x,d5 pos x))) q (St h₀ g d n o) q' (St (f (gi n R)) g d (n + 3 * R.length) o) c:=by
 have hA:Goes p w n₀ ann B cd 1 (alloc { cls:=.type "dict",data:=.dict #[] }) q (St h₀ g d n o) q (St (f []) g d n o) c:=by
  have:=tD (p:=p) (w:=w) (n₀:=n₀) (ann:=ann) (B:=B) (cd:=cd) (aB []) q h₀ g d n o
  rw [hpush,hsz] at this
  exact this
 unfold subDict
 by_cases hs:R.length≤15
 ·obtain ⟨q1,G1⟩:=mV (p:=p) (w:=w) (n₀:=n₀) (ann:=ann) (B:=B) (cd:=cd) (g:=g) (d:=d) (o:=o) (f []) pos R n q
  have G2:=mW (p:=p) (w:=w) (ann:=ann) (B:=B) (cd:=cd) (g:=g) (d:=d) (o:=o) S ha q1 R lo [] n (n + 2 * R.length) h0 (fun e he=>nomatch he) hR (by simpa using hl)
  refine ⟨q1,bD (k:=1 + (3 * R.length + (10 * R.length + 0) + 0)) ?_ (by lia)⟩
  rw [show n + 3 * R.length=n + 2 * R.length + R.length by lia,show gi n R=lz n R by unfold gi;rw [if_pos hs]]
  refine ag hA (ag (a:=()) (aE _ ?_) (ai _ _ _))
  rw [if_pos (by simpa using hs)]
  refine ag G1 (aE _ (ag (a:=PUnit.unit) ?_ (ai _ _ _)))
  simpa using G2
 ·obtain ⟨q1,z1,z2,G1⟩:=xh (p:=p) (w:=w) (ann:=ann) (B:=B) (cd:=cd) (g:=g) (d:=d) (o:=o) S pos ha R lo [] n q h0 (fun e he=>nomatch he) hR (by simpa using hl)
  refine ⟨q1,bD (k:=1 + (1 + (13 * R.length + 0) + 0)) ?_ (by lia)⟩
  rw [show gi n R=ly n R by unfold gi;rw [if_neg hs]]
  refine ag hA (ag (a:=()) (aE _ ?_) (ai _ _ _))
  rw [if_neg (by simpa using hs)]
  refine ag (oJ _ _ _) (ag (a:=PUnit.unit) ?_ (ai _ _ _))
  simpa using G1
end
theorem Ga:isSubtype (.type "dict") (.type "dict")=pure true:=by kernel_rfl
theorem Aa:typeLookup (.type "dict") (Str.ofString "__iter__")=pure (some (.builtin "dict.__iter__")):=by kernel_rfl
section
variable {p:Program} {w:World} {n₀:Nat} {ann:Option Value} {B:List Frame} {cd:Code} {α β:Type} {g:Array GenState} {d:Drawn} {n:Nat} {o:OsState}
theorem rW {h:Heap} {a:Addr} {es:List DictEntry} (e:h.get? a=some (aB es)) (q:Pos):Goes p w n₀ ann B cd 1 (isInstance (.ref a) (.type "dict")) q (St h g d n o) q (St h g d n o) true:=by
 unfold isInstance
 refine ag (k:=1) (j:=0) (a:=.type "dict") ?_ (fL Ga (ai _ _ _))
 exact ag (k:=1) (j:=0) (br _ q e) (ai _ _ _)
theorem oj {h:Heap} {a:Addr} {es:List DictEntry} (e:h.get? a=some (aB es)) (q:Pos):Goes p w n₀ ann B cd 1 (specialOf (.ref a) (Str.ofString "__iter__")) q (St h g d n o) q (St h g d n o) (some (.builtin "dict.__iter__")):=by
 unfold specialOf
 refine ag (k:=1) (j:=0) (a:=.type "dict") ?_ (fL Aa (ai _ _ _))
 exact ag (k:=1) (j:=0) (br _ q e) (ai _ _ _)
theorem mf {life:Life} {base subs:List Obj} {es':List DictEntry} (ha:Nat.ble n₀ base.length=true) (q:Pos) (F:Nat→PUnit→Sem (ForInStep PUnit))
  (hF:∀ i u,F i u=(do
   let r ← dictEntries (base.length + 1 + subs.length)
   match r[i]? with
   | some e => do
    holding [e.key,e.val] (dictPut base.length e.hash e.key e.val)
    let z ← dictEpoch (base.length + 1 + subs.length)
    if (z !=es'.length)=true then do
     unsupported "dict.changed-during-merge"
     pure (ForInStep.yield PUnit.unit)
    else pure (ForInStep.yield PUnit.unit)
   | x => do
    unsupported "dict.changed-during-merge"
    pure (ForInStep.yield PUnit.unit))) :
  ∀ (l:List DictEntry) (j:Nat) (lo:Int) (es:List DictEntry),es'.drop j=l→0≤lo + 1→Under lo es→Rise lo (l.map (·.hash))→(∀ e∈l,Keyed e)→es.length + l.length < 2 ^ 20 →
  Goes p w n₀ ann B cd (6 * l.length) (forIn (m:=Sem) (List.range' j l.length) PUnit.unit F) q (St (mkH life base (aB es) (subs++[aB es'])) g d n o) q (St (mkH life base (aB (es++l)) (subs++[aB es'])) g d n o) PUnit.unit:=by
 intro zz
 induction zz with
 | nil =>
  intro j lo es _ _ _ _ _ _
  simpa using ai _ q _
 | cons e l ih =>
  intro j lo es hd h0 hU hR hK hl
  obtain ⟨r1,r2,r3⟩:=hR
  dsimp only at r1 r2 r3
  have hj:es'[j]?=some e:=by
   have:=congrArg (fun l=>l[0]?) hd
   simpa using this
  have hd':es'.drop (j + 1)=l:=by
   have:=congrArg List.tail hd
   simpa using this
  obtain ⟨t,ht⟩:=hK e (.head _)
  have G:=ih (j + 1) e.hash (es++[e]) hd' (by lia)
   (fun x hx=>by
    rcases List.mem_append.mp hx with hx | hx
    ·exact Int.le_of_lt (Int.lt_of_le_of_lt (hU x hx) r1)
    ·rw [List.mem_singleton.mp hx];exact Int.le_refl _) r3 (fun x hx=>hK x (.tail _ hx)) (by simp only [List.length_append,List.length_cons,List.length_nil] at hl ⊢; lia)
  rw [show 6 * (e::l).length=6 + 6 * l.length by simp only [List.length_cons];lia,show es++e::l=es++[e]++l by simp]
  rw [show List.range' j (e::l).length=j::List.range' (j + 1) l.length by simp [List.range'_succ]]
  refine bo (k:=6) ?_ G
  rw [hF]
  have Sm:=lA life base (subs++[aB es'])
  refine ag (k:=1) (j:=5) (q₁:=q) (s₁:=St (mkH life base (aB es) (subs++[aB es'])) g d n o) (a:=es'.toArray) ?_ ?_
  ·exact ag (k:=1) (j:=0) (br none q ((ky life base subs (aB es)).get es')) (ai _ _ _)
  ·simp only [List.getElem?_toArray,hj]
   refine ag (k:=4) (j:=1) (q₁:=q) (s₁:=St (mkH life base (aB (es++[e])) (subs++[aB es'])) g d n o) (a:=()) (aE _ ?_) (ag (k:=1) (j:=0) (q₁:=q) (s₁:=St (mkH life base (aB (es++[e])) (subs++[aB es'])) g d n o) (a:=es'.length) ?_ ?_)
   ·have P:=rV (p:=p) (w:=w) (n₀:=n₀) (ann:=ann) (B:=B) (cd:=cd) (g:=g) (d:=d) (n:=n) (o:=o) Sm (i:=e.hash) (t:=t) (v:=e.val) (es:=es) (fun x hx=>Int.ne_of_lt (Int.lt_of_le_of_lt (hU x hx) r1)) (by simp only [List.length_cons] at hl;lia) ha q
    rw [← ht] at P
    exact P
   ·exact ag (k:=1) (j:=0) (br none q ((ky life base subs (aB (es++[e]))).get es')) (ai _ _ _)
   ·rw [if_neg (by simp)]
    exact ai _ _ _
theorem tJ {life:Life} {base subs:List Obj} {es es':List DictEntry} (ha:Nat.ble n₀ base.length=true) (hs:(base.length + 1 + subs.length==sysModules)=false) (q:Pos) (lo:Int) (h0:0≤lo + 1) (hn:es≠[]) (hU:Under lo es) (hR:Rise lo (es'.map (·.hash))) (hK:∀ e∈es',Keyed e) (hl:es.length + es'.length < 2 ^ 20) :
  Goes p w n₀ ann B cd (6 * es'.length + 5) (mergeMapping base.length (.ref (base.length + 1 + subs.length)) false) q (St (mkH life base (aB es) (subs++[aB es'])) g d n o) q (St (mkH life base (aB (es++es')) (subs++[aB es'])) g d n o) ():=by
 have Ss:=ky life base subs (aB es)
 have Sm:=lA life base (subs++[aB es'])
 unfold mergeMapping
 rw [show 6 * es'.length + 5=1 + (1 + (0 + (1 + (1 + (1 + (6 * es'.length + 0)))))) by lia]
 refine ag (rW (Ss.get es') q) ?_
 rw [if_pos rfl]
 refine ag (oj (Ss.get es') q) ?_
 rw [show (some (Value.builtin "dict.__iter__")==some (Value.builtin "dict.__iter__"))=true by decide +kernel]
 refine ag (ai true q _) ?_
 dsimp only
 rw [hs,if_neg Bool.false_ne_true]
 refine ag (q₁:=q) (s₁:=St (mkH life base (aB es) (subs++[aB es'])) g d n o) (a:=es.toArray) (ag (k:=1) (j:=0) (br none q (Sm.get es)) (ai _ _ _)) ?_
 rw [if_neg (by simpa using hn)]
 refine ag (q₁:=q) (s₁:=St (mkH life base (aB es) (subs++[aB es'])) g d n o) (a:=es'.toArray) (ag (k:=1) (j:=0) (br none q (Ss.get es')) (ai _ _ _)) ?_
 refine ag (q₁:=q) (s₁:=St (mkH life base (aB es) (subs++[aB es'])) g d n o) (a:=es'.length) (ag (k:=1) (j:=0) (br none q (Ss.get es')) (ai _ _ _)) ?_
 refine ag (a:=PUnit.unit) ?_ (ai _ _ _)
 rw [List.size_toArray,List.range_eq_range']
 exact mf (life:=life) (subs:=subs) (es':=es') ha q _ (fun i u=>rfl) es' 0 lo es rfl h0 hU hR hK hl
end
noncomputable def mY (run:List (Sem Value×Sem Value)) (main:Option Addr):Sem (Option Addr) :=
 if run.isEmpty=true then pure main
 else match main with
  | none=>do return some (← subDict run)
  | some d => do
   let sub ← holding [.ref d] (subDict run)
   (holding [.ref d,.ref sub] (mergeMapping d (.ref sub) false)).onRaise fun x=>do let _ ← holding [.ref d,x] (runValue (.builtin "proto.let_go" {}))
   return some d
noncomputable def CW (life:Life) (base:List Obj):eg→Heap
 | none=>⟨base.toArray,life⟩
 | some x=>mkH life base (aB x.1) x.2
noncomputable def CX (base:List Obj):eg→Option Addr
 | none=>none
 | some _=>some base.length
noncomputable def kC:eg→List DictEntry
 | none=>[]
 | some x=>x.1
def rX:eg→Prop
 | none=>True
 | some x=>x.1≠[]
section
variable {p:Program} {w:World} {n₀:Nat} {ann:Option Value} {B:List Frame} {cd:Code} {α β:Type} {g:Array GenState} {d:Drawn} {n:Nat} {o:OsState}
theorem mZ {life:Life} {base:List Obj} (M:eg) (pos:Pos) (ha:Nat.ble n₀ base.length=true) (hs:sysModules < base.length) (R:List (Int×Str)) (hne:R≠[]) (lo:Int) (n:Nat) (q:Pos) (h0:0≤lo + 1) (hF:rX M) (hU:Under lo (kC M)) (hR:Rise lo (R.map (·.1)))
  (hl:(kC M).length + R.length < 2 ^ 20):∃ q',Goes p w n₀ ann B cd (19 * R.length + 7) (mY (R.map fun x=>(d4 x,d5 pos x)) (CX base M)) q (St (CW life base M) g d n o) q' (St (CW life base (flS n R M)) g d (n + 3 * R.length) o) (some base.length):=by
 unfold mY
 rw [if_neg (by simpa using hne)]
 have hb:∀ k,n₀≤base.length→Nat.ble n₀ (base.length + 1 + k)=true:=fun k h=>Nat.ble_eq_true_of_le (by lia)
 have ha':=Nat.le_of_ble_eq_true ha
 cases M with
 | none =>
  obtain ⟨q',G⟩:=kz (p:=p) (w:=w) (n₀:=n₀) (ann:=ann) (B:=B) (cd:=cd) (g:=g) (d:=d) (o:=o) (lA life base []) (h₀:=⟨base.toArray,life⟩) (by simp [Heap.push]) (by simp) pos ha R lo n q h0 hR (by simp only [kC] at hl;lia)
  exact ⟨q',bD (k:=13 * R.length + 2 + 0) (ag G (ai _ _ _)) (by lia)⟩
 | some x =>
  obtain ⟨es,subs⟩:=x
  obtain ⟨q',G⟩:=kz (p:=p) (w:=w) (n₀:=n₀) (ann:=ann) (B:=B) (cd:=cd) (g:=g) (d:=d) (o:=o) (ky life base subs (aB es)) (h₀:=mkH life base (aB es) subs) (by simp [Heap.push]) (by simp;lia) pos (hb _ ha') R lo n q h0 hR (by simp only [kC] at hl;lia)
  have G2:=tJ (p:=p) (w:=w) (n₀:=n₀) (ann:=ann) (B:=B) (cd:=cd) (g:=g) (d:=d) (n:=n + 3 * R.length) (o:=o) (life:=life) (base:=base) (subs:=subs) (es:=es) (es':=gi n R) ha (beq_eq_false_iff_ne.mpr fun e=>by have h2:@LT.lt Nat _ sysModules base.length:=hs;rw [← e] at h2;lia) q' lo h0 hF hU (by rw [oQ];exact hR) (tI n R) (by rw [er];exact hl)
  rw [er] at G2
  refine ⟨q',bD (k:=(13 * R.length + 2) + ((6 * R.length + 5) + 0)) ?_ (by lia)⟩
  exact ag (aE _ G) (ag (qS _ (aE _ G2)) (ai _ _ _))
theorem Ab (n:Nat) (R:List (Int×Str)) (M:eg):kC (flS n R M)=kC M++gi n R:=by cases M <;> rfl
theorem Ac (n:Nat) {R:List (Int×Str)} (M:eg) (h:R≠[]) (hF:rX M):rX (flS n R M):=by
 cases M with
 | none =>
  show gi n R≠[]
  intro e
  have:=er n R
  rw [e] at this
  exact h (List.eq_nil_of_length_eq_zero this.symm)
 | some x =>
  show x.1++gi n R≠[]
  intro e
  exact hF (List.append_eq_nil_iff.mp e).1
theorem xi {lo:Int} (n:Nat) {R:List (Int×Str)} (M:eg) (hU:Under lo (kC M)) (hR:Rise lo (R.map (·.1))):Under ((R.map (·.1)).getLastD lo) (kC (flS n R M)):=by
 have key:∀ (l:List Int) (lo:Int),Rise lo l→lo≤l.getLastD lo∧∀ k∈l,k≤l.getLastD lo:=by
  intro l
  induction l with
  | nil=>intro lo _;exact ⟨Int.le_refl _,fun k h=>nomatch h⟩
  | cons a l ih =>
   intro lo h
   have:=ih a h.2.2
   rw [List.getLastD_cons]
   refine ⟨Int.le_trans (Int.le_of_lt h.1) this.1,fun k hk=>?_⟩
   rcases List.mem_cons.mp hk with rfl | hk
   ·exact this.1
   ·exact this.2 k hk
 have K:=key _ _ hR
 rw [Ab]
 intro e he
 rcases List.mem_append.mp he with he | he
 ·exact Int.le_trans (hU e he) K.1
 ·refine K.2 _ ?_
  rw [← oQ n R]
  exact List.mem_map_of_mem he
theorem lB {life:Life} {base:List Obj} (pos:Pos) (ha:Nat.ble n₀ base.length=true) (hs:sysModules < base.length) (F:Option (Sem Value)×Sem Value→Option Addr×List (Sem Value×Sem Value)→Sem (ForInStep (Option Addr×List (Sem Value×Sem Value))))
  (hF : ∀ (x : Int × Str) main run, F (some (d4 x), d5 pos x) (main, run) = (if ((run ++ [(d4 x, d5 pos x)]).length == 17) = true then (do
    let main ← mY (run++[(d4 x,d5 pos x)]) main
    pure (ForInStep.yield (main,([]:List (Sem Value×Sem Value))))) else pure (ForInStep.yield (main,run++[(d4 x,d5 pos x)])))) :
  ∀ (L R:List (Int×Str)) (M:eg) (lo:Int) (n:Nat) (q:Pos),0≤lo + 1→rX M→Under lo (kC M)→Rise lo ((R++L).map (·.1))→(kC M).length + (R++L).length < 2 ^ 20→R.length≤16 →
  ∃ q', Goes p w n₀ ann B cd (20 * L.length + 20 * R.length) (forIn (m := Sem) (L.map fun x => (some (d4 x), d5 pos x)) (CX base M, R.map fun x => (d4 x, d5 pos x)) F) q (St (CW life base M) g d n o) q'
   (St (CW life base (bz L R n M).1) g d (bz L R n M).2.1 o) (CX base (bz L R n M).1,(bz L R n M).2.2.map fun x=>(d4 x,d5 pos x)) ∧
   ∃ lo',0≤lo' + 1∧rX (bz L R n M).1∧Under lo' (kC (bz L R n M).1)∧Rise lo' ((bz L R n M).2.2.map (·.1))∧(kC (bz L R n M).1).length + (bz L R n M).2.2.length < 2 ^ 20∧(bz L R n M).2.2.length≤16:=by
 intro zz
 induction zz with
 | nil =>
  intro R M lo n q h0 hf hU hR hl hr
  exact ⟨q,bD (k:=0) (ai _ _ _) (by lia),lo,h0,hf,hU,by simpa [bz] using hR,by simpa [bz] using hl,hr⟩
 | cons x L ih =>
  intro R M lo n q h0 hf hU hR hl hr
  have hmap:(R.map fun x=>(d4 x,d5 pos x))++[(d4 x,d5 pos x)]=(R++[x]).map fun x=>(d4 x,d5 pos x):=by simp
  have hR':Rise lo (((R++[x])++L).map (·.1)):=by simpa using hR
  by_cases h17:(R.length + 1==17)=true
  ·have e:bz (x::L) R n M=bz L [] (n + 3 * (R.length + 1)) (flS n (R++[x]) M):=by simp only [bz];rw [if_pos h17]
   rw [List.map_append] at hR'
   obtain ⟨ra,rb⟩:=Rise.app hR'
   have hl2:(kC M).length + (R++[x]).length < 2 ^ 20:=by simp only [List.length_append,List.length_cons,List.length_nil] at hl ⊢; lia
   obtain ⟨q1,G1⟩:=mZ (p:=p) (w:=w) (n₀:=n₀) (ann:=ann) (B:=B) (cd:=cd) (g:=g) (d:=d) (o:=o) (life:=life) (base:=base) M pos ha hs (R++[x]) (by simp) lo n q h0 hf hU ra hl2
   have hlo:0≤(((R++[x]).map (·.1)).getLastD lo) + 1:=by
    have key:∀ (l:List Int) (lo:Int),Rise lo l→lo≤l.getLastD lo:=by
     intro l
     induction l with
     | nil=>intro lo _;exact Int.le_refl _
     | cons a l ih=>intro lo h;rw [List.getLastD_cons];exact Int.le_trans (Int.le_of_lt h.1) (ih a h.2.2)
    have:=key _ _ ra
    lia
   obtain ⟨q2,G2,rest⟩:=ih [] (flS n (R++[x]) M) _ (n + 3 * (R.length + 1)) q1 hlo (Ac n M (by simp) hf) (xi n M hU ra) (by simpa using rb)
    (by rw [Ab,List.length_append,er];simp only [List.length_append,List.length_cons,List.length_nil] at hl ⊢; lia) (by simp)
   rw [e]
   refine ⟨q2,bD (k:=(19 * (R++[x]).length + 7 + 0) + (20 * L.length + 20 * ([]:List (Int×Str)).length)) ?_ (by simp only [List.length_append,List.length_cons,List.length_nil,beq_iff_eq] at h17 ⊢; lia),rest⟩
   refine bo ?_ G2
   rw [hF,hmap,if_pos (by simpa using h17)]
   have en:n + 3 * (R++[x]).length=n + 3 * (R.length + 1):=by simp
   rw [en] at G1
   have ea:CX base (flS n (R++[x]) M)=some base.length:=by cases M <;> rfl
   rw [ea]
   exact ag G1 (ai _ _ _)
  ·have e:bz (x::L) R n M=bz L (R++[x]) n M:=by simp only [bz];rw [if_neg h17]
   have hr':R.length + 1≠17:=by simpa using h17
   obtain ⟨q2,G2,rest⟩:=ih (R++[x]) M lo n q h0 hf hU hR' (by simp only [List.length_append,List.length_cons,List.length_nil] at hl ⊢; lia) (by simp only [List.length_append,List.length_cons,List.length_nil];lia)
   rw [e]
   refine ⟨q2,bD (k:=0 + (20 * L.length + 20 * (R++[x]).length)) ?_ (by simp only [List.length_append,List.length_cons,List.length_nil];lia),rest⟩
   refine bo ?_ G2
   rw [hF,hmap,if_neg (by simpa using h17)]
   exact ai _ _ _
theorem tK:∃ F:Option (Sem Value)×Sem Value→Option Addr×List (Sem Value×Sem Value)→Sem (ForInStep (Option Addr×List (Sem Value×Sem Value))),
  (∀ (x : Int × Str) (pos : Pos) main run, F (some (d4 x), d5 pos x) (main, run) = (if ((run ++ [(d4 x, d5 pos x)]).length == 17) = true then (do
    let main ← mY (run++[(d4 x,d5 pos x)]) main
    pure (ForInStep.yield (main,([]:List (Sem Value×Sem Value))))) else pure (ForInStep.yield (main,run++[(d4 x,d5 pos x)])))) ∧
  ∀ items,dictDisplay items=(forIn items ((none:Option Addr),([]:List (Sem Value×Sem Value))) F >>= fun s=>mY s.2 s.1 >>= fun r=>match r with | some d=>pure (.ref d) | none=>newDict):=by
 refine ⟨?F,?h1,?h2⟩
 case h2 =>
  intro items
  unfold dictDisplay
  dsimp only
  refine congr (congrArg bind (?e1:forIn items _ _=forIn items _ ?F)) ?e2
  case e1=>rfl
  case e2=>rfl
 case h1=>exact fun x pos main run=>rfl
noncomputable def oR (L:List (Int×Str)) (n:Nat):Nat:=(bz L [] n none).2.1 + 3 * (bz L [] n none).2.2.length
theorem qX {life:Life} {base:List Obj} (pos:Pos) (ha:Nat.ble n₀ base.length=true) (hs:sysModules < base.length) (L:List (Int×Str)) (hR:Rise (-1) (L.map (·.1))) (hl:L.length < 2 ^ 20) (n:Nat) (q:Pos) {x:List DictEntry×List Obj} (hx:rN L n=some x) :
  ∃ q',Goes p w n₀ ann B cd (20 * L.length + 311) (dictDisplay (L.map fun x=>(some (d4 x),d5 pos x))) q (St ⟨base.toArray,life⟩ g d n o) q' (St (mkH life base (aB x.1) x.2) g d (oR L n) o) (.ref base.length):=by
 obtain ⟨F,hF,hD⟩:=tK
 obtain ⟨q1,G1,lo',r0,r1,r2,r3,r4,r5⟩:=lB (p:=p) (w:=w) (n₀:=n₀) (ann:=ann) (B:=B) (cd:=cd) (g:=g) (d:=d) (o:=o) (life:=life) (base:=base) pos ha hs
  F (fun x main run=>hF x pos main run) L [] none (-1) n q (by decide) trivial (fun e he=>nomatch he) (by simpa using hR) (by simpa [kC] using hl) (by simp)
 rw [hD]
 unfold rN at hx
 by_cases hz:(bz L [] n none).2.2.isEmpty=true
 ·rw [if_pos hz] at hx
  have hz':(bz L [] n none).2.2=[]:=by simpa using hz
  have ht:oR L n=(bz L [] n none).2.1:=by unfold oR;rw [hz'];rfl
  rw [ht]
  rw [hx,hz'] at G1
  refine ⟨q1,bD (k:=20 * L.length + 20 * ([]:List (Int×Str)).length + (0 + 0)) ?_ (by simp)⟩
  refine ag G1 (ag (a:=some base.length) ?_ (ai _ _ _))
  exact ai _ _ _
 ·rw [if_neg hz] at hx
  have hz':(bz L [] n none).2.2≠[]:=by simpa using hz
  obtain ⟨q2,G2⟩:=mZ (p:=p) (w:=w) (n₀:=n₀) (ann:=ann) (B:=B) (cd:=cd) (g:=g) (d:=d) (o:=o) (life:=life) (base:=base) (bz L [] n none).1 pos ha hs (bz L [] n none).2.2 hz' lo' (bz L [] n none).2.1 q1 r0 r1 r2 r3 r4
  rw [hx] at G2
  refine ⟨q2,bD (k:=20 * L.length + 20 * ([]:List (Int×Str)).length + (19 * (bz L [] n none).2.2.length + 7 + 0)) ?_ (by simp only [List.length_nil];lia)⟩
  exact ag G1 (ag G2 (ai _ _ _))
end
noncomputable def Ad (x:DI):Option PySem.Expr:=some (.Constant (.int x.1.1) x.2.1.1 x.2.1.2)
noncomputable def Ae (x:DI):PySem.Expr:=.Constant (.str x.1.2) x.2.2.1 x.2.2.2
theorem Af (env:Env) (pos:Pos):∀ L:List DI,(evalEachOpt (L.map Ad) env).zip ((evalEach (L.map Ae) env).map fun v=>do let x ← v;standAt pos;pure x)=(L.map (·.1)).map fun x=>(some (d4 x),d5 pos x):=by
 intro zz
 induction zz with
 | nil =>
  exact rfl
 | cons x L ih =>
  have:=ih
  show (_,_)::_=_::_
  exact congrArg (List.cons _) this
section
variable {p:Program} {w:World} {n₀:Nat} {ann:Option Value} {B:List Frame} {cd:Code} {α β:Type} {g:Array GenState} {d:Drawn} {n:Nat} {o:OsState}
theorem om {life:Life} {base:List Obj} (ha:Nat.ble n₀ base.length=true) (hs:sysModules < base.length) {L:List DI} (hr:oK (-1) ((L.map (·.1)).map (·.1))=true) (hl:(L.map (·.1)).length < 2 ^ 20) (pos:Pos) (env:Env) (n:Nat) (q:Pos) {x:List DictEntry×List Obj} (hx:rN (L.map (·.1)) n=some x) :
  ∃ q',Goes p w n₀ ann B cd (1 + (20 * (L.map (·.1)).length + 311)) (eval (.Dict (L.map Ad) (L.map Ae) pos) env) q (St ⟨base.toArray,life⟩ g d n o) q' (St (mkH life base (aB x.1) x.2) g d (oR (L.map (·.1)) n) o) (.ref base.length):=by
 obtain ⟨q',G⟩:=qX (p:=p) (w:=w) (n₀:=n₀) (ann:=ann) (B:=B) (cd:=cd) (g:=g) (d:=d) (o:=o) (life:=life) (base:=base) pos ha hs (L.map (·.1)) (vN hr) hl n pos hx
 refine ⟨q',fL (y:=standAt pos >>= fun _=>dictDisplay ((L.map (·.1)).map fun x=>(some (d4 x),d5 pos x))) ?_ (ag (qT pos q _) G)⟩
 rw [← Af env pos L]
 rfl
theorem rY {s s₁ s':Shared} {nm:Str} {npos pos:Pos} {ks:List (Option PySem.Expr)} {vs:List PySem.Expr} {dpos:Pos} {env:Env} {k j:Nat} {q q₁ q':Pos} {v:Value} {fl:Flow}
  (h:Goes p w n₀ ann B cd k (eval (.Dict ks vs dpos) env) pos s q₁ s₁ v)
  (h':Goes p w n₀ ann B cd j (assignStores env v none ((assignEach [.Name nm npos] env).map (·.2))) q₁ s₁ q' s' fl) :
  Goes p w n₀ ann B cd (1 + (k + j)) (exec (.Assign [.Name nm npos] (.Dict ks vs dpos) pos) env) q s q' s' fl:=by
 refine fL (y:=standAt pos >>= fun _=>eval (.Dict ks vs dpos) env >>= fun v=>assignStores env v none ((assignEach [.Name nm npos] env).map (·.2))) ?_ (ag (qT pos q _) (ag h h'))
 rfl
end
end Mine
end
section
namespace Mine
set_option maxHeartbeats 0
noncomputable abbrev Gb:Str:=Str.ofString "b3_exceptions"
noncomputable abbrev b3p:Pos:=⟨147,0,147,13⟩
noncomputable abbrev b3d:Pos:=⟨147,16,147,8704⟩
noncomputable abbrev b3a:Pos:=⟨147,0,147,8704⟩
theorem Ig:g4=[.Assign [.Name Gb b3p] (.Dict (b3D.map Ad) (b3D.map Ae) b3d) b3a]:=by kernel_rfl
theorem Fs:b3L.length=650:=by kernel_rfl
theorem Gd:oK (-1) (b3L.map (·.1))=true:=by kernel_rfl
theorem Ge:rN b3L 499=some b3x:=by kernel_rfl
theorem Gf:oR b3L 499=2449:=by kernel_rfl
noncomputable abbrev m5 (P:Params):List Obj:=(Fi P).list 128
theorem iQ (P:Params):(m5 P).length=128:=by
 unfold m5 BT.list
 simp
theorem Ih (P:Params):mkH {} (m5 P) (aB b3x.1) b3x.2=absHeap (HY P) 167 {}:=by kernel_rfl
theorem CY (w:World) (os:OsState) (K:Flow→Sem PySem.Fin) (H:Value→Sem PySem.Fin) (gd:Bool→Bool) (lv:List Value→List Value) (q:Pos) :
  tB fb pg w 28 cL 7 (F7 w.params os).abs ⟨(assignStores fK (.ref 128) none ((assignEach [.Name Gb b3p] fK).map (·.2))).wrap K H gd lv,cE,q,[topFrame p0]⟩=some ((vJ w.params os).abs,⟨K .next,cE,vK,[topFrame p0]⟩):=by
 kernel_rfl
end Mine
end
section
namespace Mine
set_option maxHeartbeats 0
theorem m6 {w:World} {n:Nat} {s s':SharedT} {t:Thread} {f:Flow} {c:Code} {q:Pos} (h:gJ fb pg w 28 cL 1 n s t=some (f,s',c,q)):segRun treeTable pg w 28 cL 1 n s.abs t=some (f,s'.abs,c,q):=by
 refine segRun_of ?_
 rw [PySem.W.Fast.te10110043849684766642,PySem.W.Fast.te14364793385576792824]
 exact h
theorem Ii {w:World} {n:Nat} {s s':Shared} {t t':Thread} (h:tB fb pg w 28 cL n s t=some (s',t')):topGo treeTable pg w 28 cL n s t=some (s',t'):=by
 rw [PySem.W.Fast.te15667345088766844465,PySem.W.Fast.te14364793385576792824]
 exact h
theorem Ij {w:World} {n:Nat} {s s':Shared} {t:Thread} (h:vM fb pg w 28 cL n s t=some s'):topRun treeTable pg w 28 cL n s t=some s':=by
 rw [PySem.W.Fast.te14082659384304107361,PySem.W.Fast.te14364793385576792824]
 exact h
theorem CZ (w:World) (os:OsState):Goes pg w 28 cL [topFrame p0] cE (1 + ((1 + (20 * b3L.length + 311)) + 7)) (exec (.Assign [.Name Gb b3p] (.Dict (b3D.map Ad) (b3D.map Ae) b3d) b3a) fK) z8 (vI w.params os).abs vK (vJ w.params os).abs .next:=by
 obtain ⟨q',G⟩:=om (p:=pg) (w:=w) (n₀:=28) (ann:=cL) (B:=[topFrame p0]) (cd:=cE) (g:=#[]) (d:={}) (o:=os) (life:={}) (base:=m5 w.params)
  (by rw [iQ];rfl) (by rw [iQ];decide) Gd (by show b3L.length < _;rw [Fs];decide) b3d fK 499 b3a Ge
 have e:St (mkH {} (m5 w.params) (aB b3x.1) b3x.2) #[] {} (oR b3L 499) os=(F7 w.params os).abs:=by rw [Ih,Gf];rfl
 have G':Goes pg w 28 cL [topFrame p0] cE (1 + (20 * b3L.length + 311)) (eval (.Dict (b3D.map Ad) (b3D.map Ae) b3d) fK) b3a (vI w.params os).abs q' (F7 w.params os).abs (.ref 128):=by
  rw [← e]
  have:=G
  rw [iQ] at this
  exact this
 refine rY G' (fun K H gd lv N r hr=>?_)
 rw [Nat.add_comm]
 exact go_top (Ii (CY w os K H gd lv q')) hr
theorem Gg {w:World} {os:OsState} {N:Nat} {r:Shared} {rest:List Stmt} (k:topRun treeTable pg w 28 cL N (vJ w.params os).abs (restOf rest fK cE vK [topFrame p0])=some r) :
  topRun treeTable pg w 28 cL (N + (1 + ((1 + (20 * b3L.length + 311)) + 7))) (vI w.params os).abs (restOf (g4++rest) fK cE z8 [topFrame p0])=some r:=by
 rw [Ig]
 unfold restOf
 rw [execs_app_wrap]
 have h:=CZ w os
 rw [execs_cons_wrap]
 refine h _ _ _ _ N r ?_
 exact k
theorem run (w:World) (os:OsState):topRun treeTable pg w 28 cL 16128 (H7 w.params os).abs (topStub pg)=some (vL w.params os).abs:=by
 have k8:=piece_nil (env:=fK) (Ij (J2 w os))
 have k7:=piece_app (m6 (J1 w os)) k8
 have k6:=piece_app (m6 (J4 w os)) k7
 have k5:=piece_app (m6 (J0 w os)) k6
 have k4:=Gg k5
 have k3:=piece_app (m6 (JZ w os)) k4
 have k2:=piece_app (m6 (J3 w os)) k3
 have k1:=piece_app (m6 (JY w os)) k2
 rw [← tC] at k1
 have k0:=piece_block (m6 (JX w os)) k1
 have hA:=Ii (JW w os)
 have eD:Ie fb cE=denote treeTable cE:=by
  show PySem.W.Fast.tw11892475500146522536 PySem.W.Fast.tw14364793385576792824 cE=_
  rw [← PySem.W.Fast.te11892475500146522536, ← PySem.W.Fast.te14364793385576792824]
 rw [eD] at hA
 have kA:=go_top hA k0
 rw [Fs] at kA
 exact kA
end Mine
end
section
namespace Mine
set_option maxHeartbeats 0
theorem Gh (w:World):((PySem.W.Fast.tw10274390034422433532 fb (opening pg) w 5000 (PySem.W.Fast.tw1435165496053646825 (opening pg)).1 (PySem.W.Fast.tw1435165496053646825 (opening pg)).2).bind (PySem.W.Fast.tw14289696077712309145 pg)).map (fun s=>(s.heap,s.gens,s.drawn,s.toks))=some (absHeap (F0 w.params) 28 {},#[],{},276):=by
 kernel_rfl
end Mine
end
section
namespace Mine
set_option maxHeartbeats 0
noncomputable def qV:Program:=view PySem.Challenge.pw_tc0096_01 [0,1,8,9,10,11,12,13,14,15,17,18,20,22,23,24,26,28,29,30,31,32,33,34,35]
noncomputable def loose:List Str:=["insort_right","bisect_right","insort_left","bisect_left","ONE_THIRD","ONE_SIXTH","TWO_THIRD","b1_set","b3_exceptions","tspecials","_name_disallowed_re","_value_disallowed_re","_formatparam"]
theorem Ik (P:Params):Kas=(K P).map (·.1):=by kernel_rfl
noncomputable def hk:Hook:=kHook K Kas Ik
noncomputable abbrev H0 (P:Params):Heap:=absHeap (F0 P) 28 {}
noncomputable abbrev H1 (P:Params):Heap:=absHeap (Fj P) 370 {}
theorem Il (w:World):((H0 w.params).isNs mainGlobals && (#[]:Array GenState).size==0,(H0 w.params).objs.size,(H0 w.params).nsMap mainGlobals "__annotations__")=(true,28,cL):=by kernel_rfl
theorem Im (w:World) (os:OsState):(staticsOk (importedModules pg.main.body) (H0 w.params) (H1 w.params))=true:=by kernel_rfl
theorem Io (w:World) (os:OsState):namesBound pg (H1 w.params)=true:=by kernel_rfl
theorem Ip (w:World) (os:OsState):gensDone ⟨H1 w.params,#[],{},2793,os⟩=true:=by kernel_rfl
theorem Iq (w:World) (os:OsState):laidKept (H0 w.params) (H1 w.params)=true:=by kernel_rfl
theorem Ir (w:World) (os:OsState):Hook.obs hk ⟨H1 w.params,#[],{},2793,os⟩=Hook.val hk w:=by kernel_rfl
end Mine
end
section
namespace Mine
set_option maxHeartbeats 0
noncomputable abbrev s1 (P:Params) (os:OsState):Shared:=⟨H1 P,#[],{},2793,os⟩
noncomputable abbrev XtV (s:Shared):Bool:=xlAt qV [] s && recOk (RowW.records PySem.Challenge.rw_tc0096_01.row.toRowW) s
theorem Gi (w:World) (os:OsState):PySem.W.Fast.tw4187177175401517315 qV loose (importedModules pg.main.body) XtV true (s1 w.params os)=openGood qV loose:=by kernel_rfl
end Mine
end
section
namespace Mine
set_option maxHeartbeats 0
theorem opens (w:World):(fencedOpening treeTable pg w 20000).map (fun s=>(s.heap,s.gens,s.drawn,s.toks))=some (H0 w.params,#[],{},276):=by
 have h:=Gh w
 unfold fb at h
 rw [← PySem.W.Fast.te10274390034422433532, ← PySem.W.Fast.te14364793385576792824, ← PySem.W.Fast.te1435165496053646825, ← PySem.W.Fast.te14289696077712309145] at h
 obtain ⟨s₀,h0,h1⟩:=Option.map_eq_some_iff.mp h
 obtain ⟨s,h2,h3⟩:=Option.bind_eq_some_iff.mp h0
 unfold fencedOpening
 have:=importEnds_mono 15000 _ _ _ _ h2
 rw [show 5000 + 15000=20000 from rfl] at this
 rw [this]
 show (fenceModules? pg s).map _=_
 rw [h3]
 exact congrArg some h1
theorem Iu (w:World) (os:OsState):openSeen qV loose (importedModules pg.main.body) XtV true (s1 w.params os)=openGood qV loose:=by
 rw [PySem.W.Fast.te4187177175401517315]
 exact Gi w os
theorem left:LeftO pg qV loose XtV (Hook.obs hk) (Hook.val hk) 20000:=by
 refine LeftO.of_pieces (H₀:=H0) (H₁:=H1) (gs₀:=#[]) (gs₁:=#[]) (d₀:={}) (d₁:={}) (k₀:=276) (k₁:=2793) (m₀:=28) (ann:=cL) (M:=16128) opens Il run rfl fun w=>?_
 funext os
 rw [Im w os,Io w os,Ip w os,Iq w os,Ir w os,Iu w os]
 rfl
end Mine
end
section
section
namespace Mine
def aF (P:Prop):Prop:=P
theorem cB {P:Prop} (h:aF P):P:=h
abbrev bp (w:World) (f:Value) (pos:List Value) (kw:List (Str×Value)) (D:Nat) (news:List (Addr×Obj)) (Post:Value→List (Addr×Obj)→Prop):Prop :=
 ∀ {p : Program} {loose : List Str} {mean : ExcName → Option Value} {mg mb : Str → Option Value} {dp un : Nat} {gd : Option (List Code)} {cn : Str} {nm : List (Str × NameKind)} {b1 b2 : Bool} {mr : List (Str × Const)} {a : Addr} {ccd : Value} {cl : List (Str × Addr)} {outer : List Env} {A₀ : Around} {base h₀ : Heap} {L : Addr} {m : Str → Option Value} {s : Shared} {Q E : Value → Shared → Prop},
  Below A₀ base outer h₀→Fr h₀ L s.heap m→(K w.params).In h₀→News h₀ L s.heap news→Top p loose mean mg mb h₀→dp + D < recursionLimit→un + 8 * D < cLine →
  (∀ v news' h' tk',Post v news'→Fr h₀ L h' m→News h₀ L h' news'→Q v { s with heap:=h',toks:=tk' }) →
  wpAny (model PySem.Challenge.rw_tc0096_01.prog w) (ktrTop dp un gd cn ⟨.function,nm,b1,b2,mr⟩ L a ccd cl outer) (call f pos kw) Q E s
def ah (w:World) (f:Value) (pos:List Value) (kw:List (Str×Value)) (D:Nat) (news:List (Addr×Obj)) (Post:Value→List (Addr×Obj)→Prop):Prop:=bp w f pos kw D news Post
abbrev az (w:World) (f:Value) (pos:List Value) (kw:List (Str×Value)) (D:Nat) (news:List (Addr×Obj)) (R:Tok→Value):Prop :=
 ah w f pos kw D news (fun v nx=>nx=news∧∃ t,v=R t)
noncomputable def tL (lt:Nat→Bool):Nat→Nat→Nat→Nat
 | 0,lo,_=>lo
 | f + 1,lo,hi=>if lo < hi then (if lt ((lo + hi) / 2) then tL lt f ((lo + hi) / 2 + 1) hi else tL lt f lo ((lo + hi) / 2)) else lo
noncomputable def bis (lt:Nat→Bool) (lo hi:Nat):Nat:=tL lt (hi - lo) lo hi
theorem aV {α:Type} {a:α} {P:Prop} (e:(none:Option α)=some a):P:=nomatch e
theorem bA {P:Prop} (e:false=true):P:=nomatch e
theorem kE {P:Prop} (e:true=false):P:=nomatch e
inductive Iv {α β:Type} (f:α→β) (l:List α):β→Prop
 | mk (a:α):a∈l→Iv f l (f a)
theorem bI {α β:Type} {f:α→β} {l:List α} {b:β} (h:b∈l.map f):Iv f l b:=by
 obtain ⟨a,ha,rfl⟩:=List.mem_map.mp h
 exact .mk a ha
theorem half (lo hi:Nat):(lo < hi→lo≤(lo + hi) / 2)∧(lo < hi→(lo + hi) / 2 < hi):=⟨fun h=>(Nat.le_div_iff_mul_le (by decide)).mpr (Nat.mul_two lo▸Nat.add_le_add_left (Nat.le_of_lt h) lo),fun h=>Nat.div_lt_of_lt_mul (Nat.two_mul hi▸Nat.add_lt_add_right h hi)⟩
theorem oS {lo hi m:Nat} (h:lo < hi) (h1:lo≤m):hi - (m + 1) < hi - lo:=Nat.sub_lt_sub_left h (Nat.lt_succ_of_le h1)
theorem oT (lt:Nat→Bool):∀ (f lo hi:Nat),hi - lo≤f→tL lt f lo hi=bis lt lo hi:=by
 intro f
 induction f using Nat.strongRecOn with
 | ind f ih =>
  intro lo hi h
  by_cases hlt:lo < hi
  ·obtain ⟨k,hk⟩:∃ k,hi - lo=k + 1:=⟨_,(Nat.succ_pred_eq_of_pos (Nat.sub_pos_of_lt hlt)).symm⟩
   cases f with
   | zero=>rw [hk] at h;exact absurd h (Nat.not_succ_le_zero _)
   | succ g =>
    have hkg:k + 1≤g + 1:=hk▸h
    unfold bis
    rw [hk]
    simp only [tL,if_pos hlt]
    have m1:=(half lo hi).1 hlt
    have m2:=(half lo hi).2 hlt
    generalize (lo + hi) / 2=m at m1 m2 ⊢
    have u1:hi - (m + 1) < k + 1:=hk▸oS hlt m1
    have u2:m - lo < k + 1:=hk▸Nat.sub_lt_sub_right m1 m2
    have o1:=Nat.le_of_lt_succ u1
    have o2:=Nat.le_of_lt_succ u2
    have hkg:=Nat.le_of_lt_succ hkg
    rw [ih g (Nat.lt_succ_self g) _ _ (Nat.le_trans o1 hkg),ih g (Nat.lt_succ_self g) _ _ (Nat.le_trans o2 hkg),ih k (Nat.lt_succ_of_le hkg) _ _ o1,ih k (Nat.lt_succ_of_le hkg) _ _ o2]
  ·unfold bis
   rw [Nat.sub_eq_zero_of_le (Nat.not_lt.mp hlt)]
   cases f with
   | zero=>rfl
   | succ g=>simp only [tL,if_neg hlt]
theorem gL (lt:Nat→Bool) {lo hi:Nat} (h:¬ lo < hi):bis lt lo hi=lo:=by
 unfold bis
 rw [Nat.sub_eq_zero_of_le (Nat.not_lt.mp h)];rfl
theorem fe (lt:Nat→Bool) {lo hi:Nat} (h:lo < hi):bis lt lo hi=if lt ((lo + hi) / 2) then bis lt ((lo + hi) / 2 + 1) hi else bis lt lo ((lo + hi) / 2):=by
 obtain ⟨k,hk⟩:∃ k,hi - lo=k + 1:=⟨_,(Nat.succ_pred_eq_of_pos (Nat.sub_pos_of_lt h)).symm⟩
 have m1:=(half lo hi).1 h
 have m2:=(half lo hi).2 h
 conv=>lhs;unfold bis;rw [hk]
 simp only [tL,if_pos h]
 generalize (lo + hi) / 2=m at m1 m2 ⊢
 have u1:hi - (m + 1) < k + 1:=hk▸oS h m1
 have u2:m - lo < k + 1:=hk▸Nat.sub_lt_sub_right m1 m2
 rw [oT lt k _ _ (Nat.le_of_lt_succ u1),oT lt k _ _ (Nat.le_of_lt_succ u2)]
theorem qY (lt:Nat→Bool) {lo hi:Nat} (h:lo < hi) (hl:lt ((lo + hi) / 2)=true):bis lt lo hi=bis lt ((lo + hi) / 2 + 1) hi:=by rw [fe lt h,if_pos hl]
theorem qZ (lt:Nat→Bool) {lo hi:Nat} (h:lo < hi) (hl:lt ((lo + hi) / 2)=false):bis lt lo hi=bis lt lo ((lo + hi) / 2):=by rw [fe lt h,hl];rfl
theorem a5 (lt:Nat→Bool):∀ {lo hi:Nat},lo≤hi→lo≤bis lt lo hi∧bis lt lo hi≤hi:=by
 intro lo hi h
 induction hn:hi - lo using Nat.strongRecOn generalizing lo hi with
 | ind n ih =>
  subst hn
  by_cases hlt:lo < hi
  ·have m1:=(half lo hi).1 hlt
   have m2:=(half lo hi).2 hlt
   rw [fe lt hlt]
   generalize (lo + hi) / 2=m at m1 m2 ⊢
   split
   ·have z:=ih _ (oS hlt m1) (lo:=m + 1) (hi:=hi) m2 rfl
    exact ⟨Nat.le_trans m1 (Nat.le_of_succ_le z.1),z.2⟩
   ·have z:=ih _ (Nat.sub_lt_sub_right m1 m2) (lo:=lo) (hi:=m) m1 rfl
    exact ⟨z.1,Nat.le_trans z.2 (Nat.le_of_lt m2)⟩
  ·rw [gL lt hlt]
   exact ⟨Nat.le_refl _,h⟩
noncomputable def ltI (ns:List Int) (x:Int) (i:Nat):Bool:=decide (ns.getD i 0 < x)
noncomputable def leI (ns:List Int) (x:Int) (i:Nat):Bool := !decide (x < ns.getD i 0)
theorem tM (a b:Nat):Int.fdiv ((a:Int) + (b:Int)) 2=(((a + b) / 2:Nat):Int):=by
 rw [Int.fdiv_eq_ediv_of_nonneg _ (by lia)];lia
theorem C0 (a b:Nat):Int.fdiv ((a:Int) + (b:Int)) 2 + 1=(((a + b) / 2 + 1:Nat):Int):=by rw [tM];rfl
theorem C1 (a b:Nat):(Int.fdiv ((a:Int) + (b:Int)) 2).toNat=(a + b) / 2:=by rw [tM];rfl
section
variable {prog:Program} {w:World} {A:Around} {E:Value→Shared→Prop} {s:Shared}
theorem Gj {l:Addr} {vs:List Value} {k:Nat} {Q:Value→Shared→Prop} (hl:s.heap.IsList l vs.toArray) (hk:vs.length=k) (hfit:k < 2 ^ 62)
  (h:Q (.int (k:Nat) (s.toks + 1)) { s with toks:=s.toks + 1 + 1 }):wpAny (model prog w) A (call (.builtin "len") [.ref l]) Q E s:=by
 have e:vs.toArray.size=k:=by simpa using hk
 refine Calls.call_len_list hl (by lia) ?_
 rw [e]
 exact h
theorem C2 {value slice:PySem.Expr} {l:Addr} {vs:List Value} {k:Int} {u:Tok} {Q:Value→Shared→Prop} (hl:s.heap.IsList l vs.toArray) (h0:0≤k) (hhi:k < 2 ^ 63) (h1:k.toNat < vs.length) (h:Q (vs.getD k.toNat .none) s)
  (hs:subscripted slice false (.ref l) (.int k u)=operate [.ref l,.int k u] (getItem (.ref l) (.int k u)):=by with_unfolding_all rfl) :
  wpAny (model prog w) A (subscriptTail value slice (.ref l) (.int k u)) Q E s:=by
 have hx:vs[k.toNat]?=some (vs.getD k.toNat .none):=by simp [List.getD,h1]
 exact tail_any hl.typeIs slot_list_getitem.lookup (wpAny_getItem_list hl h0 hhi (by simpa using hx) h) hs
end
section
variable {prog:Program} {w:World} {A:Around} {E:Value→Shared→Prop} {Q:Flow→Shared→Prop} {s:Shared} {env:Env} {h₀:Heap} {L:Addr}
end
noncomputable def up (x:Str) (v:Value) (m:Str→Option Value):Str→Option Value:=fun y=>if y=x then some v else m y
section
variable {M:Model} {A:Around} {E:Value→Shared→Prop} {s:Shared} {h₀:Heap} {L a:Addr} {m:Str→Option Value} {cn:Str} {cs:Scope} {ccd:Value} {cl:List (Str×Addr)}
 {x:Str} {v:Value} {Q:Unit→Shared→Prop} {news:List (Addr×Obj)} {fl:UInt64} {t:Tok} {n:Int} {z:Str}
theorem Gk (F:Fr h₀ L s.heap m) (N:News h₀ L s.heap news)
  (h:∀ h' tk' (_:Tok),Fr h₀ L h' (up x v m)→News h₀ L h' news→Q () { s with heap:=h',toks:=tk' })
  (hk:cs.kind=.function:=by rfl) (hx:(envX cn cs L a ccd cl).kindOf x=some .local:=by rfl):wpAny M A (storeName (envX cn cs L a ccd cl) x v) Q E s :=
 storeX_L F N (fun h' F' N'=>h h' _ default F' N') hk hx
theorem C3 (F:Fr h₀ L s.heap m) (N:News h₀ L s.heap news)
  (h:∀ h' tk' t',Fr h₀ L h' (up x (.float fl t') m)→News h₀ L h' news→Q () { s with heap:=h',toks:=tk' })
  (hk:cs.kind=.function:=by rfl) (hx:(envX cn cs L a ccd cl).kindOf x=some .local:=by rfl):wpAny M A (storeName (envX cn cs L a ccd cl) x (.float fl t)) Q E s :=
 storeX_L F N (fun h' F' N'=>h h' _ _ F' N') hk hx
theorem C4 (F:Fr h₀ L s.heap m) (N:News h₀ L s.heap news)
  (h:∀ h' tk' t',Fr h₀ L h' (up x (.int n t') m)→News h₀ L h' news→Q () { s with heap:=h',toks:=tk' })
  (hk:cs.kind=.function:=by rfl) (hx:(envX cn cs L a ccd cl).kindOf x=some .local:=by rfl):wpAny M A (storeName (envX cn cs L a ccd cl) x (.int n t)) Q E s :=
 storeX_L F N (fun h' F' N'=>h h' _ _ F' N') hk hx
theorem C5 (F:Fr h₀ L s.heap m) (N:News h₀ L s.heap news)
  (h:∀ h' tk' t',Fr h₀ L h' (up x (.str z t') m)→News h₀ L h' news→Q () { s with heap:=h',toks:=tk' })
  (hk:cs.kind=.function:=by rfl) (hx:(envX cn cs L a ccd cl).kindOf x=some .local:=by rfl):wpAny M A (storeName (envX cn cs L a ccd cl) x (.str z t)) Q E s :=
 storeX_L F N (fun h' F' N'=>h h' _ _ F' N') hk hx
end
end Mine
end
open Mine
local macro_rules | `(tactic| k_room) => `(tactic| ktr_room)
local macro_rules | `(tactic| is_list) => `(tactic| exact News.isList (by k_asm) (by k_mem))
local macro_rules | `(tactic| ksw_same) => `(tactic| (intro z h2 h3; (try simp only [List.forall_mem_cons, List.not_mem_nil, false_implies, implies_true, and_true, ne_eq] at h2); (try simp only [List.contains_cons, List.contains_nil, Bool.or_false, Bool.or_eq_false_iff, beq_eq_false_iff_ne, ne_eq] at h3); (simp [up, kstB, h2, h3]; done)))
local macro_rules | `(tactic| walk_at "k_store") => `(tactic| (k_dflt ((first | refine' C3 ?F ?N ?_ ?a ?b | refine' C4 ?F ?N ?_ ?a ?b | refine' C5 ?F ?N ?_ ?a ?b | refine' Gk ?F ?N ?_ ?a ?b); (case a => rfl); (case b => rfl); (case F => k_asm); (case N => k_asm); k_whole; intro h' tk' t' F' N'; (try dsimp only); (try k_sweep))))
local macro_rules | `(tactic| walk_at "storeName") => `(tactic| walk_at "k_store")
section
namespace Mine
noncomputable abbrev bx (w:World) (l:Addr) (t:Tok):Obj:=dictOf [⟨PyData.keyHash w.params (Str.ofString "_headers"),.str (Str.ofString "_headers") t,.ref l⟩] 1
theorem Iw {w:World} {news:List (Addr×Obj)}:ah w (.ref 317) [] [] 4 news (fun v nx=>∃ x d l t,v=.ref x∧nx=(l,W.listOf #[] 0)::(x,instObj 317 d)::(d,bx w l t)::news∧(∀ p∈news,p.1 < d)∧d < x∧x < l):=by
 (try unfold az);(try unfold ah);(try unfold bp);k_fill;intro p loose mean mg mb dp un gd cn nm b1 b2 mr a ccd cl outer A₀ base h₀ L m s Q E B F X N T hd hu hret
 k_steps
 rename Fr _ _ _ (up _ _ _)=>F9
 rename News _ _ _ (_::_::_::_)=>N9
 rename ∀ p∈news,p.1 < _=>lnews
 rename_i x9 d9 h4' F1' N1' l2' g9 L9 h3' FG9 B9 X9 T9 l9 h2' l3' h1' tk1' t1' h0'
 with_unfolding_all refine' For_turns F9 ?_
 k_steps
 refine iter_listTurns (vs:=[]) rfl ‹Fr _ _ _ (up _ _ _)› ‹News _ _ _ (_::_::_::_)› (.head _) rfl rfl (fun I _=>ItemsRest.zero fun h tk F N=>?_)
 k_steps
 rename News h₀ L h (_::_::_::_)=>N8
 refine' hret _ _ _ _ ⟨x9,d9,l9,_,rfl,rfl,lnews,l2',l3'.1⟩ ?rF N8
 k_asm
end Mine
end
section
namespace Mine
open PySem.Builtin PySem.Builtin.Re
theorem m7:PlainAttrs "re.Pattern" :=
 ⟨⟨"object.__getattribute__",by rw [typeLookup_type,builtinLookup_eq_fast];kernel_rfl,by decide +kernel⟩,by rw [typeLookup_type,builtinLookup_eq_fast];kernel_rfl⟩
theorem iL:Slot "re.Pattern" "search" "re.Pattern.search" :=
 .of (owner:="re.Pattern") (n:="search") (by rw [typeLookup_type,builtinLookup_eq_fast];kernel_rfl) (by decide +kernel) (by decide +kernel) (by decide +kernel)
  (by first | exact .inl (by decide +kernel) | exact .inr (by decide +kernel)) (by rw [isSubtype_type];kernel_rfl)
theorem oo:typeOf (.builtin "re.Pattern.search")=pure (.type "method_descriptor"):=by show builtinType _=_;rw [builtinType_eq_fast];kernel_rfl
theorem nf:entryFor table "re.Pattern.search"=some Builtin.«re.Pattern.search» := entryFor_of_tree (by kernel_rfl)
theorem oq (a b:Value):argsOk "re.Pattern.search" ⟨[a,b],[]⟩:=by unfold argsOk;kernel_rfl
section
variable {M:Model} {A:Around} {E:Value→Shared→Prop} {s:Shared}
theorem Ag {v:Value} {a f:String}:reNamed a f ["string","pos","endpos"] 1 [v] []=pure [some v,none,none]:=by rfl
theorem Ah {m:Sre.M} {n:Nat} {o:Sre.Outcome} (h:(m.runFor 4).outcome=some o):reDrive (n + 1) m=pure (m.runFor 4):=by
 show (if (m.runFor 4).outcome.isSome=true then _ else _)=_
 rw [h];rfl
theorem Ai (m:Sre.M) {Q:PUnit→Shared→Prop} (h:Q PUnit.unit s):∀ l:List Nat,wpAny M A (forIn l PUnit.unit fun i __s =>
     if m.seen.has i=true then do
      rule (Sre.names.getD i "")
      pure (ForInStep.yield PUnit.unit)
     else pure (ForInStep.yield PUnit.unit)) Q E s:=by
 intro zz
 induction zz with
 | nil =>
  exact wpAny_pure h
 | cons i l ih =>
  rw [List.forIn_cons]
  refine wpAny_bind ?_
  by_cases e:m.seen.has i=true
  ·rw [if_pos e]
   exact wpAny_bind (wpAny_rule (wpAny_pure (ih)))
  ·rw [if_neg e]
   exact wpAny_pure (ih)
theorem Gl {m:Sre.M} {Q:Option Sre.M→Shared→Prop} (h:(m.runFor 4).outcome=some .failed) (hQ:Q none s):wpAny M A (reRunToEnd m) Q E s:=by
 unfold reRunToEnd
 rw [show (2:Nat) ^ 64=(2 ^ 64 - 1) + 1 by decide +kernel,Ah h]
 refine wpAny_bind (wpAny_pure (wpAny_bind (Ai _ ?_ _)))
 rw [h]
 exact wpAny_pure hQ
end
noncomputable def hdrChars:List Nat:=[97,104,107,109,112,65,72,75,77,80]
noncomputable def fM (code:Array Nat) (c:Nat):Bool:=match ((Sre.forSearch code #[c] 0 0 1 false).runFor 4).outcome with
 | some .failed=>true
 | _=>false
theorem Aj {code:Array Nat} {c:Nat} (h:fM code c=true):((Sre.forSearch code #[c] 0 0 1 false).runFor 4).outcome=some .failed:=by
 unfold fM at h
 split at h
 ·assumption
 ·exact bA h
noncomputable def codeOf (o:Obj):Array Nat:=match o.data with
 | .seq xs _=>(xs.map reRawOf).map (·.toNat)
 | _=>#[]
theorem q0 {prog:Program} {w:World} {p k:Addr} {o ok:Obj} {f0 f1 f3 f4:Value} {tz:Tok} {c:Nat} {t:Tok} {items:Array Value} {n:Nat} (hd:o.data=.fields #[f0,f1,.int 0 tz,f3,f4,.ref k,.int 0 0]) (hk:ok.data=.seq items n) (hf:fM ((items.map reRawOf).map (·.toNat)) c=true) :
  MeetsIn prog w (Builtin.«re.Pattern.search» ⟨[.ref p,.str (Str.mk #[c]) t],[]⟩) (fun _ R s=>s.heap.get? p=some o∧s.heap.get? k=some ok∧R (.ok (.ret .none)) s) :=
 .of_wp fun A R s ⟨h1,h2,h3⟩=>by
  unfold Builtin.«re.Pattern.search»
  refine wpAny_bind ?_
  unfold reTarget
  dsimp only
  rw [Ag]
  refine wpAny_bind (wpAny_pure ?_)
  dsimp only
  refine wpAny_bind (wpAny_pure (wpAny_bind (wpAny_pure (wpAny_bind (wpAny_fieldsOf h1 hd (wpAny_bind ?_))))))
  rw [show reTextOf (.str (Str.mk #[c]) t)=pure (#[c],0) from rfl]
  refine wpAny_pure ?_
  dsimp only
  have hr:reRawNat ((#[f0,f1,Value.int 0 tz,f3,f4,Value.ref k,Value.int 0 0]:Array Value).getD 6 Value.none)=0:=rfl
  have hg:reRawNat ((#[f0,f1,Value.int 0 tz,f3,f4,Value.ref k,Value.int 0 0]:Array Value).getD 2 Value.none)=0:=rfl
  have h5:(#[f0,f1,Value.int 0 tz,f3,f4,Value.ref k,Value.int 0 0]:Array Value).getD 5 Value.none=.ref k:=rfl
  rw [hr,hg,h5]
  rw [if_neg (by decide),if_neg (by decide)]
  rw [show reNoCollectionInside (.str (Str.mk #[c]) t) 0=pure () from rfl]
  refine wpAny_bind (wpAny_pure (wpAny_bind ?_))
  unfold reRawItems
  refine wpAny_bind (wpAny_seqItems h2 hk (wpAny_pure (wpAny_pure ?_)))
  dsimp only [Option.getD]
  unfold reAnswer
  have hl:Min.min (Int.toNat (2 ^ 63 - 1)) (#[c]:Array Nat).size=1:=by
   have:(#[c]:Array Nat).size=1:=rfl
   rw [this];lia
  have hp:Min.min (Int.toNat 0) (#[c]:Array Nat).size=0:=Nat.zero_min _
  rw [hl,hp]
  have hff:=Aj hf
  generalize Sre.forSearch ((items.map reRawOf).map (·.toNat)) #[c] 0 0 1 false=mm at hff ⊢
  refine wpAny_bind (Gl hff ?_)
  exact wpAny_pure ⟨_,rfl,h3⟩
theorem tN (P:Params):(hdrChars.all fun c=>fM (codeOf (mJ P)) c)=true:=by kernel_rfl
theorem rZ (P:Params):(hdrChars.all fun c=>fM (codeOf (mK P)) c)=true:=by kernel_rfl
theorem l7 {prog:Program} {w:World} {A:Around} {E:Value→Shared→Prop} {s:Shared} {p k:Addr} {o ok:Obj} {f0 f1 f3 f4:Value} {tz:Tok} {c:Nat} {t:Tok} {items:Array Value} {n:Nat} (ho:s.heap.get? p=some o) (hok:s.heap.get? k=some ok) (hd:o.data=.fields #[f0,f1,.int 0 tz,f3,f4,.ref k,.int 0 0]) (hc:o.cls=.type "re.Pattern") (hk:ok.data=.seq items n) (hf:fM (codeOf ok) c=true) {Q:Value→Shared→Prop} (h:Q .none s) :
  wpAny (model prog w) A (call (.builtin "re.Pattern.search") [.ref p,.str (Str.mk #[c]) t]) Q E s:=by
 have hf':fM ((items.map reRawOf).map (·.toNat)) c=true:=by unfold codeOf at hf;rw [hk] at hf;exact hf
 exact call_meetsIn iL ⟨_,ho,hc⟩ nf (oq _ _) (q0 hd hk hf') ⟨ho,hok,h⟩
theorem iM {M:Model} {A:Around} {E:Value→Shared→Prop} {s:Shared} {p:Addr} {o:Obj} {pl:Sem Bool} (ho:s.heap.get? p=some o) (hc:o.cls=.type "re.Pattern") (hd:o.dict=none) {Q:Value×List Value→Shared→Prop} (h:Q (.builtin "re.Pattern.search",[.ref p]) s) :
  wpAny M A (getMethod (.ref p) "search" pl) Q E s :=
 getMethod_builtin ⟨_,ho,hc⟩ m7 iL oo (fun a e=>by cases e;exact ⟨o,ho,hd⟩) h
end Mine
end
section
namespace Mine
theorem Ak {w:World} {c:Nat} (h:c∈hdrChars):fM (codeOf (mJ w.params)) c=true:=List.all_eq_true.mp (tN w.params) c h
theorem xj {w:World} {c:Nat} (h:c∈hdrChars):fM (codeOf (mK w.params)) c=true:=List.all_eq_true.mp (rZ w.params) c h
local macro_rules | `(tactic| walk_at $k:str) => if ["getMethod ref", "call builtin:re.Pattern.search"].contains k.getString then `(tactic| refine cB ?_) else Lean.Macro.throwUnsupported
theorem vO {w:World} {news:List (Addr×Obj)} {x:Addr} {c:Nat} {t:Tok} (hc:c∈hdrChars):az w (.ref 218) [.ref x,.str (Str.mk #[c]) t] [(Str.ofString "name",.bool true)] 3 news (fun t=>.str (Str.mk #[c]) t):=by
 (try unfold az);(try unfold ah);(try unfold bp);k_fill;intro p loose mean mg mb dp un gd cn nm b1 b2 mr a ccd cl outer A₀ base h₀ L m s Q E B F X N T hd hu hret
 k_steps
 unfold aF
 refine iM (Fr.keep (by assumption) _ _ (‹(K w.params).In _› _ _ (by rfl))) rfl rfl ?_
 k_steps
 unfold aF
 refine l7 (k:=182) (ok:=mJ w.params) (Fr.keep (by assumption) _ _ (‹(K w.params).In _› _ _ (by rfl))) (Fr.keep (by assumption) _ _ (‹(K w.params).In _› _ _ (by rfl))) rfl rfl rfl (Ak hc) ?_
 k_steps
 exact hret _ _ _ _ ⟨rfl,_,rfl⟩ (by k_asm) (by k_asm)
theorem Al {w:World} {news:List (Addr×Obj)} {x:Addr} {c:Nat} {t:Tok} (hc:c∈hdrChars):az w (.ref 218) [.ref x,.str (Str.mk #[c]) t] [(Str.ofString "name",.bool false)] 3 news (fun t=>.str (Str.mk #[c]) t):=by
 (try unfold az);(try unfold ah);(try unfold bp);k_fill;intro p loose mean mg mb dp un gd cn nm b1 b2 mr a ccd cl outer A₀ base h₀ L m s Q E B F X N T hd hu hret
 k_steps
 unfold aF
 refine iM (Fr.keep (by assumption) _ _ (‹(K w.params).In _› _ _ (by rfl))) rfl rfl ?_
 k_steps
 unfold aF
 refine l7 (k:=187) (ok:=mK w.params) (Fr.keep (by assumption) _ _ (‹(K w.params).In _› _ _ (by rfl))) (Fr.keep (by assumption) _ _ (‹(K w.params).In _› _ _ (by rfl))) rfl rfl rfl (xj hc) ?_
 k_steps
 exact hret _ _ _ _ ⟨rfl,_,rfl⟩ (by k_asm) (by k_asm)
end Mine
end
section
namespace Mine
noncomputable abbrev one (c:Nat):Str:=Str.mk #[c]
section
variable {prog:Program} {w:World} {A:Around} {h₀:Heap} {L:Addr} {m:Str→Option Value} {env:Env} {ct elt:Expr} {x:Str} {scope:Scope} {cl:List (Str×Addr)} {s:Shared} {S:List (Addr×Obj)→Prop} {P:Nat→Value→Prop} {Fin:List Value→List (Addr×Obj)→Prop} {n:Nat}
theorem kG {s₁ s₂:Shared} {I C D:Addr} {oI oC oD:Obj} {r r':Value→List (Addr×Obj)→Prop} {y y':Value} (h:∀ nx,r y nx→r' y' nx) (e:LCg.CompEnd h₀ L m s₁ I oI C oC D oD S r y s₂):LCg.CompEnd h₀ L m s₁ I oI C oC D oD S r' y' s₂:=by
 obtain ⟨a,b,c,d,f,g,k,l,o⟩:=e
 exact ⟨a,b,c,d,f,g,k,l,h _ o⟩
theorem xk (J:Nat→List Value→List (Addr×Obj)→Prop)
  (turn:∀ i ys news v I oI C oC D m₂ h tk (E':Value→Shared→Prop),i < n→J i ys news→P i v→LCg.NsObj oC m₂→m₂ x=some v→Fr h₀ L h m→News h₀ L h ((I,oI)::(C,oC)::(D,LCg.lst ys)::news)→LCg.Off3 I C D news→((@Ne Nat I C)∧(@Ne Nat I D)∧(@Ne Nat C D)) →
   wpAny (model prog w) A (isTrue ct (compEnvC scope cl C env) (eval ct (compEnvC scope cl C env))) (fun ok s'=>if ok=true then
    wpAny (model prog w) A (eval elt (compEnvC scope cl C env)) (LCg.CompEnd h₀ L m { s with heap:=h,toks:=tk } I oI C oC D (LCg.lst ys) S (fun y news'=>J (i + 1) (ys++[y]) news')) E' s'
    else LCg.CompEnd h₀ L m { s with heap:=h,toks:=tk } I oI C oC D (LCg.lst ys) S (fun _ news'=>J (i + 1) ys news') Value.none s') E' { s with heap:=h,toks:=tk })
  (fin:∀ ys news,J n ys news→Fin ys news):∀ (j i:Nat) (ys:List Value) (news:List (Addr×Obj)),i + j=n→J i ys news→LCt.CompRestT prog w A h₀ L m env ct elt x scope cl s S P Fin j i ys news:=by
 intro zz
 induction zz with
 | zero =>
  intro i ys news e hJ
  exact LCt.CompRestT.zero (fin ys news ((show i=n from e)▸hJ))
 | succ j ih =>
  intro i ys news e hJ
  exact LCt.CompRestT.succ fun v I oI C oC D m₂ h tk E' hP hC hx F N o ne =>
    wpAny_mono (turn i ys news v I oI C oC D m₂ h tk E' (by lia) hJ hP hC hx F N o ne) (fun ok s' q=>by
     by_cases hok:ok=true
     ·rw [if_pos hok] at q ⊢
      exact wpAny_mono q (fun y s₂ q=>kG (fun nx hq=>ih (i + 1) _ _ (by lia) hq) q) fun _ _ e=>e
     ·rw [if_neg hok] at q ⊢
      exact kG (fun nx hq=>ih (i + 1) _ _ (by lia) hq) q) fun _ _ e=>e
end
theorem News.add {h₀ h:Heap} {L:Addr} {news:List (Addr×Obj)} {p:Addr×Obj} (N:News h₀ L h news) (hp:p∈news):News h₀ L h (p::news):=fun q hq=>by
 rcases cnX hq with rfl | hq
 ·exact N _ hp
 ·exact N _ hq
theorem News.of {h₀ h:Heap} {L:Addr} {news news':List (Addr×Obj)} (N:News h₀ L h news) (hp:∀ p∈news',p∈news):News h₀ L h news':=fun q hq=>N q (hp q hq)
theorem News.low {h₀ h:Heap} {L:Addr} {news:List (Addr×Obj)} (N:News h₀ L h news):∀ p∈news,p.1 < h.objs.size:=fun p hp=>Heap.lt_size (N p hp).1
theorem News.same {h₀ h:Heap} {L:Addr} {news:List (Addr×Obj)} (N:News h₀ L h news) {a:Addr} {o o':Obj} (h1:(a,o)∈news) (h2:(a,o')∈news):o=o':=Option.some.inj ((N _ h1).1.symm.trans (N _ h2).1)
theorem Iy {L:Addr} {news:List (Addr×Obj)} (h:∀ p∈news,p.1 < L):∀ p∈news,p.1≠L:=fun p hp=>Nat.ne_of_lt (h p hp)
theorem all1 {L:Nat} {news:List (Addr×Obj)} (h:∀ p∈news,p.1 < L):∀ p∈news,p.1≠L + 1:=fun p hp=>Nat.ne_of_lt (Nat.lt_succ_of_lt (h p hp))
theorem all2 {L:Nat} {news:List (Addr×Obj)} (h:∀ p∈news,p.1 < L):∀ p∈news,p.1≠L + 1 + 1:=fun p hp=>Nat.ne_of_lt (Nat.lt_succ_of_lt (Nat.lt_succ_of_lt (h p hp)))
theorem Iz {L:Nat} {news:List (Addr×Obj)} (h:∀ p∈news,p.1 < L):∀ p∈news,p.1≠L + 1 + 1 + 1:=fun p hp=>Nat.ne_of_lt (Nat.lt_succ_of_lt (Nat.lt_succ_of_lt (Nat.lt_succ_of_lt (h p hp))))
theorem q4 {a b r:List (Addr×Obj)} (ha:∀ p∈a,p∈r) (hb:∀ p∈b,p∈r):∀ p∈a++b,p∈r:=fun p hp=>(apX hp).elim (ha p) (hb p)
theorem Am {x b:List (Addr×Obj)}:∀ p∈x,p∈x++b:=fun _ h=>apL h
theorem sub_right {x a b:List (Addr×Obj)} (h:∀ p∈x,p∈b):∀ p∈x,p∈a++b:=fun p hp=>apR (h p hp)
theorem An {l:List (Addr×Obj)} {a:Addr×Obj} {r:List (Addr×Obj)} (h:∀ p∈l,p∈r):∀ p∈l,p∈a::r:=fun p hp=>.tail _ (h p hp)
theorem vP {l:List (Addr×Obj)}:∀ p∈l,p∈l:=fun _ hp=>hp
theorem dR {q:Addr×Obj} {l r:List (Addr×Obj)} (hq:q∈r) (h:∀ p∈l,p∈r):∀ p∈q::l,p∈r:=fun p hp=>by
 rcases cnX hp with rfl | hp
 ·exact hq
 ·exact h p hp
theorem tO {x a b:List (Addr×Obj)} (h:∀ p∈x,p∈a):∀ p∈x,p∈a++b:=fun p hp=>apL (h p hp)
end Mine
end
open Mine
local macro_rules | `(tactic| walk_at "k_in") => `(tactic| repeat (first | exact .head _ | refine .tail _ ?_ | exact List.mem_append_left _ (by assumption) | refine List.mem_append_right _ ?_ | assumption))
local macro_rules | `(tactic| walk_at "k_seg") => `(tactic| repeat (first | exact Am | exact vP | exact tO (by assumption) | refine An ?_ | refine sub_right ?_))
local macro_rules | `(tactic| walk_at "k_subs") => `(tactic| repeat (first | exact vP | (refine dR ?hq ?_; (case hq => walk_at "k_in")) | (refine q4 ?ha ?_; (case ha => walk_at "k_subs")) | exact List.forall_mem_nil _ | (show _; walk_at "k_seg"; done)))
section
namespace Mine
section
variable {prog:Program} {w:World} {A:Around} {E:Value→Shared→Prop} {s:Shared} {env:Env} {h₀:Heap} {target:Expr} {body:List Stmt} {Q:Flow→Shared→Prop}
end
section
variable {prog:Program} {w:World} {A:Around} {E:Value→Shared→Prop} {s:Shared} {env:Env} {h₀:Heap} {y:Str} {py:Pos} {body:List Stmt} {Q:Flow→Shared→Prop}
noncomputable def bE (x:Str):List Itm:=x.cps.toList.map fun c=>Itm.tok fun t=>Value.str (Str.mk #[c]) t
noncomputable def bg (a:Int) (n:Nat):List Itm:=(List.range n).map fun (i:Nat)=>Itm.tok fun t=>Value.int (a + (i:Int)) t
theorem xl {x:Str} {t:Tok} {m₀:Str→Option Value} {news:List (Addr×Obj)} (hh:A.handled=none) (F:Fr h₀ env.locals s.heap m₀) (N:News h₀ env.locals s.heap news)
  (rest₀:∀ (I:Addr) (cls:String),(∀ p∈news,p.1 < I)→ItemsRest prog w A E h₀ env (.Name y py) body Q s [(I,cls)] [] (bE x) m₀ news) :
  wpAny (model prog w) A (pyIter (.str x t)) (fun it s₂=>TurnsAt prog w A h₀ env (.Name y py) body Q E it s₂) E s:=by
 have main:∀ (ty:String) (o:Obj) (W:Walks prog w A s.heap.objs.size [s.heap.objs.size] [s.heap.objs.size] x.cps.size (SignAt x) (fun i h=>h.IsStrIter s.heap.objs.size ty x t i)),(s.heap.push o).IsStrIter s.heap.objs.size ty x t 0 →
   TurnsAt prog w A h₀ env (.Name y py) body Q E (.ref s.heap.objs.size) { s with heap:=s.heap.push o }:=by
  intro ty o W hst
  refine ktu_core (tk0:=s.toks) (keep:=[]) (ws:=[(s.heap.objs.size,ty)]) (xs:=bE x) (KTurns.ofWalks W fun i v s Q E st q=>wpAny_pure q) (by simp [bE]) (fun i v h hp=>?_) (fun i h st=>?_) (fun b hb=>?_) (fun b hb=>by simpa using hb) (fun b hb=>.inl (by simpa using hb)) ?_ (fun p hp hI=>?_) hst (F.push _) (fun p hp=>⟨Heap.get?_push_of_some _ (N p hp).1,(N p hp).2⟩) trivial (rest₀ _ _ fun p hp=>Heap.lt_size (N p hp).1)
  ·obtain ⟨c,u,hc,rfl⟩:=hp
   have hc':x.cps.toList[i]?=some c:=by rw [Array.getElem?_toList];exact hc
   exact ⟨Itm.tok fun t=>Value.str (Str.mk #[c]) t,by rw [bE,List.getElem?_map,hc'];rfl,u,rfl⟩
  ·obtain ⟨o',ho',hc',_⟩:=st
   exact ⟨[(s.heap.objs.size,o')],⟨⟨rfl,hc'⟩,trivial⟩,fun p hp=>by rw [sgX hp];exact ho'⟩
  ·have hb':b=s.heap.objs.size:=by simpa using hb
   rw [hb']
   exact ⟨List.mem_cons_self ..,next_is_new F⟩
  ·intro hm
   exact absurd F.ns.lt ((sgX hm)▸Nat.lt_irrefl _)
  ·exact absurd (Heap.lt_size (N p hp).1) ((sgX hI)▸Nat.lt_irrefl _)
 cases ha:x.cps.all (· < 128)
 ·exact wpAny_pyIter_wide ha (main "str_iterator" _ (Walks.strWide hh _ x t) ⟨_,Heap.get?_push_size _ rfl,rfl,rfl⟩)
 ·exact wpAny_pyIter_ascii ha (main "str_ascii_iterator" _ (Walks.strAscii hh _ x t) ⟨_,Heap.get?_push_size _ rfl,rfl,rfl⟩)
theorem r6 {r:Addr} {a b:Int} {t u v:Tok} {n:Nat} {m₀:Str→Option Value} {news:List (Addr×Obj)} (hh:A.handled=none) (F:Fr h₀ env.locals s.heap m₀) (N:News h₀ env.locals s.heap news) (hr:IsRange s.heap r a b 1 t u v) (hsmall:Builtin.Range.small a b 1=true) (hn:Builtin.Range.rangeSize a b 1=(n:Int))
  (rest₀:∀ (I:Addr) (cls:String),(∀ p∈news,p.1 < I)→ItemsRest prog w A E h₀ env (.Name y py) body Q s [(I,cls)] [] (bg a n) m₀ news) :
  wpAny (model prog w) A (pyIter (.ref r)) (fun it s₂=>TurnsAt prog w A h₀ env (.Name y py) body Q E it s₂) E s:=by
 refine wpAny_pyIter_range hr hsmall ?_
 rw [hn]
 refine ktu_core (tk0:=s.toks) (keep:=[]) (ws:=[(s.heap.objs.size,"range_iterator")]) (xs:=bg a n) (KTurns.ofWalks (Walks.range hh _ a 1 n).bound fun i v s Q E st q=>wpAny_pure q) (by simp [bg]) (fun i v h hp=>?_) (fun i h st=>?_) (fun b hb=>?_) (fun b hb=>by simpa using hb) (fun b hb=>.inl (by simpa using hb)) ?_ (fun p hp hI=>?_) ?_ (F.push _) (fun p hp=>⟨Heap.get?_push_of_some _ (N p hp).1,(N p hp).2⟩) trivial (rest₀ _ _ fun p hp=>Heap.lt_size (N p hp).1)
 ·obtain ⟨hi,t',rfl⟩:=hp
  refine ⟨Itm.tok fun t=>Value.int (a + (i:Int)) t,by simp [bg,hi],t',?_⟩
  rw [Int.mul_one]
 ·exact ⟨[(s.heap.objs.size,_)],⟨⟨rfl,rfl⟩,trivial⟩,fun p hp=>by rw [sgX hp];exact st⟩
 ·have hb':b=s.heap.objs.size:=by simpa using hb
  rw [hb']
  exact ⟨List.mem_cons_self ..,next_is_new F⟩
 ·intro hm
  exact absurd F.ns.lt ((sgX hm)▸Nat.lt_irrefl _)
 ·exact absurd (Heap.lt_size (N p hp).1) ((sgX hI)▸Nat.lt_irrefl _)
 ·show IsRangeIter _ _ _ _ _
  simpa using Heap.get?_push_size _ rfl
end
end Mine
end
section
namespace Mine
section
variable {prog:Program} {w:World} {A:Around} {E:Value→Shared→Prop} {s:Shared} {h₀:Heap} {L:Addr} {m:Str→Option Value} {env:Env}
end
end Mine
end
section
namespace Mine
open PySem.Flt in
theorem ot {prog:Program} {w:World} {A:Around} {E:Value→Shared→Prop} {s:Shared} {Q:Value→Shared→Prop} {a b c:Value} (hh:A.handled=none) (ha:NumV a) (hb:NumV b) (hc:NumV c)
  (h:∀ h' tk,(∀ c o,s.heap.get? c=some o→h'.get? c=some o)→Q (if ltV a b then (if ltV b c then c else b) else (if ltV a c then c else a)) { s with heap:=h',toks:=tk }) :
  wpAny (model prog w) A (call (.builtin "max") [a,b,c]) Q E s:=by
 have hT:(s.heap.push { cls:=.type "tuple",data:=.seq #[a,b,c] }).IsTuple s.heap.objs.size #[a,b,c]:=⟨_,Heap.get?_push_size _ rfl,rfl,0,rfl⟩
 refine call_max_three (wpAny_pyIter_tuple hT ?_)
 have hsz:(s.heap.push { cls:=.type "tuple",data:=.seq #[a,b,c] }).objs.size=s.heap.objs.size + 1:=Heap.size_push ..
 refine ⟨_,[_,s.heap.objs.size],[_],_,_,_,_,rfl,Walks.tuple (A:=A.in1) hh _ s.heap.objs.size (by rw [hsz];exact Nat.ne_of_lt (Nat.lt_succ_self _)) #[a,b,c],
  ⟨⟨_,Heap.get?_push_size _ rfl,rfl,rfl⟩,hT.push _⟩,fun c hc=>?_,by simp,cmpOf_gt #[a,b,c] (by simp [ha,hb,hc]),fun v h' tk hP hk=>?_⟩
 ·show c < ((s.heap.push _).push _).objs.size
  rw [Heap.size_push,hsz]
  rcases cnX hc with rfl | hc
  ·rw [hsz];exact Nat.lt_succ_self _
  ·rcases cnX hc with rfl | hc
   ·exact Nat.lt_succ_of_lt (Nat.lt_succ_self _)
   ·cases hc
 ·have hold:∀ c o,s.heap.get? c=some o→h'.get? c=some o:=fun c o e=>by
   refine hk c o (fun hm=>?_) (Heap.get?_push_of_some _ (Heap.get?_push_of_some _ e))
   rcases cnX hm with e1 | hm
   ·have:=Heap.lt_size e;rw [e1,hsz] at this;exact Nat.lt_irrefl _ (Nat.lt_of_succ_lt this)
   ·cases hm
  have:=h h' tk hold
  have hv:v=if ltV a b then (if ltV b c then c else b) else (if ltV a c then c else a):=by
   cases h1:ltV a b <;> cases h2:ltV b c <;> cases h3:ltV a c <;> simp [argBest,h1,h2,h3] at hP <;> simp [hP]
  rw [hv];exact this
open PySem.Flt in
theorem ou {prog:Program} {w:World} {A:Around} {E:Value→Shared→Prop} {s:Shared} {Q:Value→Shared→Prop} {a b c:Value} (hh:A.handled=none) (ha:NumV a) (hb:NumV b) (hc:NumV c)
  (h:∀ h' tk,(∀ c o,s.heap.get? c=some o→h'.get? c=some o)→Q (if ltV b a then (if ltV c b then c else b) else (if ltV c a then c else a)) { s with heap:=h',toks:=tk }) :
  wpAny (model prog w) A (call (.builtin "min") [a,b,c]) Q E s:=by
 have hT:(s.heap.push { cls:=.type "tuple",data:=.seq #[a,b,c] }).IsTuple s.heap.objs.size #[a,b,c]:=⟨_,Heap.get?_push_size _ rfl,rfl,0,rfl⟩
 refine call_min_three (wpAny_pyIter_tuple hT ?_)
 have hsz:(s.heap.push { cls:=.type "tuple",data:=.seq #[a,b,c] }).objs.size=s.heap.objs.size + 1:=Heap.size_push ..
 refine ⟨_,[_,s.heap.objs.size],[_],_,_,_,_,rfl,Walks.tuple (A:=A.in1) hh _ s.heap.objs.size (by rw [hsz];exact Nat.ne_of_lt (Nat.lt_succ_self _)) #[a,b,c],
  ⟨⟨_,Heap.get?_push_size _ rfl,rfl,rfl⟩,hT.push _⟩,fun c hc=>?_,by simp,cmpOf_lt #[a,b,c] (by simp [ha,hb,hc]),fun v h' tk hP hk=>?_⟩
 ·show c < ((s.heap.push _).push _).objs.size
  rw [Heap.size_push,hsz]
  rcases cnX hc with rfl | hc
  ·rw [hsz];exact Nat.lt_succ_self _
  ·rcases cnX hc with rfl | hc
   ·exact Nat.lt_succ_of_lt (Nat.lt_succ_self _)
   ·cases hc
 ·have hold:∀ c o,s.heap.get? c=some o→h'.get? c=some o:=fun c o e=>by
   refine hk c o (fun hm=>?_) (Heap.get?_push_of_some _ (Heap.get?_push_of_some _ e))
   rcases cnX hm with e1 | hm
   ·have:=Heap.lt_size e;rw [e1,hsz] at this;exact Nat.lt_irrefl _ (Nat.lt_of_succ_lt this)
   ·cases hm
  have:=h h' tk hold
  have hv:v=if ltV b a then (if ltV c b then c else b) else (if ltV c a then c else a):=by
   cases h1:ltV b a <;> cases h2:ltV c b <;> cases h3:ltV c a <;> simp [argBest,h1,h2,h3] at hP <;> simp [hP]
  rw [hv];exact this
noncomputable def fLt (x y:UInt64):Bool:=Float64.cmp x y==some Ordering.lt
noncomputable def aK (a b c:UInt64):UInt64:=if fLt a b then (if fLt b c then c else b) else (if fLt a c then c else a)
noncomputable def aU (a b c:UInt64):UInt64:=if fLt b a then (if fLt c b then c else b) else (if fLt c a then c else a)
open PySem.Flt in
theorem r7 {prog:Program} {w:World} {A:Around} {E:Value→Shared→Prop} {s:Shared} {Q:Value→Shared→Prop} {x y z:UInt64} {t u v:Tok} {h₀:Heap} {L:Addr} {m:Str→Option Value} {news:List (Addr×Obj)}
  (hh:A.handled=none) (F:Fr h₀ L s.heap m) (N:News h₀ L s.heap news)
  (h:∀ h' tk t',Fr h₀ L h' m→News h₀ L h' news→Q (.float (aK x y z) t') { s with heap:=h',toks:=tk }) :
  wpAny (model prog w) A (call (.builtin "max") [.float x t,.float y u,.float z v]) Q E s:=by
 refine ot hh (.float x t) (.float y u) (.float z v) fun h' tk kp=>?_
 have H:=fun t'=>h h' tk t' (F.grownK kp) (N.grown kp)
 have e:∃ t',(if ltV (.float x t) (.float y u) then (if ltV (.float y u) (.float z v) then Value.float z v else .float y u) else (if ltV (.float x t) (.float z v) then .float z v else .float x t))=Value.float (aK x y z) t':=by
  show ∃ t',(if fLt x y then (if fLt y z then Value.float z v else .float y u) else (if fLt x z then .float z v else .float x t))=_
  unfold aK
  cases fLt x y <;> cases fLt y z <;> cases fLt x z <;> exact ⟨_,rfl⟩
 obtain ⟨t',e⟩:=e
 rw [e];exact H t'
open PySem.Flt in
theorem r8 {prog:Program} {w:World} {A:Around} {E:Value→Shared→Prop} {s:Shared} {Q:Value→Shared→Prop} {x y z:UInt64} {t u v:Tok} {h₀:Heap} {L:Addr} {m:Str→Option Value} {news:List (Addr×Obj)}
  (hh:A.handled=none) (F:Fr h₀ L s.heap m) (N:News h₀ L s.heap news)
  (h:∀ h' tk t',Fr h₀ L h' m→News h₀ L h' news→Q (.float (aU x y z) t') { s with heap:=h',toks:=tk }) :
  wpAny (model prog w) A (call (.builtin "min") [.float x t,.float y u,.float z v]) Q E s:=by
 refine ou hh (.float x t) (.float y u) (.float z v) fun h' tk kp=>?_
 have H:=fun t'=>h h' tk t' (F.grownK kp) (N.grown kp)
 have e:∃ t',(if ltV (.float y u) (.float x t) then (if ltV (.float z v) (.float y u) then Value.float z v else .float y u) else (if ltV (.float z v) (.float x t) then .float z v else .float x t))=Value.float (aU x y z) t':=by
  show ∃ t',(if fLt y x then (if fLt z y then Value.float z v else .float y u) else (if fLt z x then .float z v else .float x t))=_
  unfold aU
  cases fLt y x <;> cases fLt z y <;> cases fLt z x <;> exact ⟨_,rfl⟩
 obtain ⟨t',e⟩:=e
 rw [e];exact H t'
end Mine
end
section
namespace Mine
noncomputable abbrev FO:UInt64:=4607182418800017408
noncomputable abbrev F6:UInt64:=4618441417868443648
noncomputable def vF (m1 m2 hue:UInt64):UInt64 :=
 if (Float64.cmp (Float64.divmod hue FO).2 4595172819793696085==some Ordering.lt)=true then Float64.add m1 (Float64.mul (Float64.mul (Float64.sub m2 m1) (Float64.divmod hue FO).2) F6)
 else if (Float64.cmp (Float64.divmod hue FO).2 4602678819172646912==some Ordering.lt)=true then m2
 else if (Float64.cmp (Float64.divmod hue FO).2 4604180019048437077==some Ordering.lt)=true then Float64.add m1 (Float64.mul (Float64.mul (Float64.sub m2 m1) (Float64.sub 4604180019048437077 (Float64.divmod hue FO).2)) F6)
 else m1
noncomputable def d6 (h:UInt64):Int:=Flt.toInt Float64.truncOf (Float64.mul h F6)
noncomputable def xm (h:UInt64):UInt64:=Float64.sub (Float64.mul h F6) (Float64.ofInt (d6 h))
noncomputable def C6 (h s v:UInt64):UInt64×UInt64×UInt64 :=
 if (Float64.cmp s 0==some Ordering.eq)=true then (v,v,v)
 else if (d6 h).fmod 6=0 then (v,Float64.mul v (Float64.sub FO (Float64.mul s (Float64.sub FO (xm h)))),Float64.mul v (Float64.sub FO s))
 else if (d6 h).fmod 6=1 then (Float64.mul v (Float64.sub FO (Float64.mul s (xm h))),v,Float64.mul v (Float64.sub FO s))
 else if (d6 h).fmod 6=2 then (Float64.mul v (Float64.sub FO s),v,Float64.mul v (Float64.sub FO (Float64.mul s (Float64.sub FO (xm h)))))
 else if (d6 h).fmod 6=3 then (Float64.mul v (Float64.sub FO s),Float64.mul v (Float64.sub FO (Float64.mul s (xm h))),v)
 else if (d6 h).fmod 6=4 then (Float64.mul v (Float64.sub FO (Float64.mul s (Float64.sub FO (xm h)))),Float64.mul v (Float64.sub FO s),v)
 else (v,Float64.mul v (Float64.sub FO s),Float64.mul v (Float64.sub FO (Float64.mul s (xm h))))
def Ao (h s:UInt64):Prop:=(Float64.cmp s 0==some Ordering.eq)=true∨(Float64.isNaN (Float64.mul h F6)=false∧Float64.isInf (Float64.mul h F6)=false∧¬ 2 ^ 1024 - 2 ^ 970≤(d6 h).natAbs)
noncomputable def ng (l s:UInt64):UInt64:=if (Float64.cmp l 4602678819172646912==some Ordering.lt || Float64.cmp l 4602678819172646912==some Ordering.eq)=true then Float64.mul l (Float64.add FO s) else Float64.sub (Float64.add l s) (Float64.mul l s)
noncomputable abbrev IA (a b c:UInt64) (ta tb tc:Tok):Obj:={ cls:=.type "tuple",data:=.seq #[.float a ta,.float b tb,.float c tc] }
abbrev xn (news:List (Addr×Obj)) (x:UInt64×UInt64×UInt64) (v:Value) (nx:List (Addr×Obj)):Prop :=
 ∃ (d:Addr) (a b c:UInt64) (ta tb tc:Tok),v=.ref d∧nx=(d,IA a b c ta tb tc)::news∧(∀ p∈news,p.1 < d)∧x=(a,b,c)
end Mine
end
section
namespace Mine
local macro_rules | `(tactic| k_all) => `(tactic| first | exact fun p hp => Nat.ne_of_lt (Nat.lt_add_right _ (kst_ltOf (by assumption) p hp)) | exact fun p hp => Nat.ne_of_lt (kst_ltOf (by assumption) p hp))
noncomputable def d7 (c:Nat):Nat:=if c < 97 then c + 32 else c
inductive Tups (news:List (Addr×Obj)):List Value→List (Nat×Nat)→Prop
 | nil:Tups news [] []
 | cons {vs es} (a:Addr) (k v:Nat) (t1 t2:Tok) (n:Nat):(a,({ cls:=.type "tuple",data:=.seq #[.str (Str.mk #[k]) t1,.str (Str.mk #[v]) t2] n }:Obj))∈news→Tups news vs es→Tups news (.ref a::vs) ((k,v)::es)
theorem Tups.length {news:List (Addr×Obj)} {vs es} (h:Tups news vs es):vs.length=es.length:=by induction h with
 | nil=>rfl
 | cons a k u t1 t2 n hm hr ih=>simp [ih]
inductive IB (news:List (Addr×Obj)) (es:List (Nat×Nat)) (i:Nat) (v:Value):Prop
 | mk (a:Addr) (k u:Nat) (t1 t2:Tok) (n:Nat):v=Value.ref a→es[i]?=some (k,u)→(a,({ cls:=.type "tuple",data:=.seq #[.str (Str.mk #[k]) t1,.str (Str.mk #[u]) t2] n }:Obj))∈news→IB news es i v
theorem Tups.get {news:List (Addr×Obj)} {vs es} (h:Tups news vs es):∀ (i:Nat) (v:Value),vs[i]?=some v→IB news es i v:=by
 induction h with
 | nil=>intro i v h;simp at h
 | cons a k u t1 t2 n hm hr ih =>
  intro i v h
  cases i with
  | zero=>simp at h;exact ⟨a,k,u,t1,t2,n,h.symm,rfl,hm⟩
  | succ i =>
   obtain ⟨a,k,u,t1,t2,n,h1,h2,h3⟩:=ih i v h
   exact ⟨a,k,u,t1,t2,n,h1,h2,h3⟩
theorem Tups.mono {news news':List (Addr×Obj)} {vs es} (h:Tups news vs es) (hs:∀ a o,(a,o)∈news→o.cls=.type "tuple"→(a,o)∈news'):Tups news' vs es:=by
 induction h with
 | nil=>exact .nil
 | cons a k u t1 t2 n hm hr ih=>exact .cons a k u t1 t2 n (hs _ _ hm rfl) ih
theorem StrsAre.snoc {vs:List Value} {ys:List Str} (h:StrsAre vs ys) (y:Str) (t:Tok):StrsAre (vs++[.str y t]) (ys++[y]):=by
 induction h with
 | nil=>exact .cons y t .nil
 | cons a b hr ih=>exact .cons _ _ ih
theorem Off1.all {D:Addr}:∀ {l:List (Addr×Obj)},LCg.Off1 D l→∀ p∈l,p.1≠D
 | [],_,_,h=>nomatch h
 | _ :: _, x, p, h => by
  rcases cnX h with rfl | h
  ·exact x.1
  ·exact Off1.all x.2 p h
noncomputable def kH (es:List (Nat×Nat)) (c:Nat):List Nat:=(es.filter fun e=>d7 e.1==d7 c).map (·.2)
theorem oU (es:List (Nat×Nat)) (c k u:Nat):kH (es++[(k,u)]) c=if d7 k==d7 c then kH es c++[u] else kH es c:=by
 unfold kH
 by_cases h:(d7 k==d7 c)=true
 ·simp [h]
 ·simp [h]
local macro_rules | `(tactic| walk_at "call ref") => `(tactic| ((show wpAny _ _ (call (Value.ref 218) _ _) _ _ _); refine cB ?_))
local macro_rules | `(tactic| walk_at $k:str) => if ["call builtin:str.lower", "eval ListComp", "CompSrcT"].contains k.getString then `(tactic| refine cB ?_) else Lean.Macro.throwUnsupported
theorem xo:(hdrChars.all fun c=>Txt.lower (Str.mk #[c])==Str.mk #[d7 c])=true:=by kernel_rfl
theorem oV {c:Nat} (h:c∈hdrChars):Txt.lower (Str.mk #[c])=Str.mk #[d7 c]:=by simpa using List.all_eq_true.mp xo c h
theorem Ap {c:Nat} (h:c∈hdrChars):d7 c∈hdrChars:=by
 have:∀ c∈hdrChars,d7 c∈hdrChars:=by decide
 exact this c h
theorem vQ {w:World} {news:List (Addr×Obj)} {x d l:Addr} {t0 t:Tok} {vs:List Value} {n c:Nat} {es:List (Nat×Nat)} (hx:(x,instObj 317 d)∈news) (hd0:(d,bx w l t0)∈news) (hl:(l,W.listOf vs.toArray n)∈news) (ht:Tups news vs es) (hc:c∈hdrChars) (hes:∀ e∈es,e.1∈hdrChars) (hle:es.length≤4096) :
  ah w (.ref 256) [.ref x,.str (Str.mk #[c]) t] [] 5 news (fun v nx=>∃ (D:Addr) (ys:List Value),v=.ref D∧nx=(D,W.listOf ys.toArray ys.length)::news∧(∀ p∈news,p.1≠D)∧StrsAre ys ((kH es c).map one)):=by
 (try unfold az);(try unfold ah);(try unfold bp);k_fill;intro p loose mean mg mb dp un gd cn nm b1 b2 mr a ccd cl outer A₀ base h₀ L m s Q E B F X N T hd hu hret
 replace N:=News.add (News.add (News.add N hl) (.tail _ hd0)) (.tail _ (.tail _ hx))
 k_steps
 unfold aF
 dsimp only
 refine SCL.lower (by simp [Str.length]) fun _=>?_
 rw [oV hc]
 k_steps
 unfold aF
 refine vO (Ap hc) (by k_asm) (by k_asm) (by k_asm) (by k_asm) (by k_asm) (by ktr_room) (by ktr_units) ?_
 rintro v9 nx9 h9 tk9 ⟨rfl,t9,rfl⟩ F9 N9
 dsimp only
 k_steps
 unfold aF
 refine LCt.ListComp_T (F₀:=by k_asm) (by with_unfolding_all rfl) (by decide) (by rfl) (by decide) (by rfl) ?_
 k_steps
 unfold aF
 rename_i g' L' h1 FG B' X' T' lL o1 d1 h2 x2 h3 o3 F3 N3 d3
 refine LCt.CompSrcT.ledger rfl ‹Fr _ _ _ (bindL _ _ _)› ‹News _ _ _ ((_,_)::(x,_)::_)› (.tail _ (.tail _ (.tail _ (.head _)))) (by rw [List.size_toArray,ht.length];exact Nat.le_trans hle (aD rfl)) (fun g=>xk (fun i ys nx=>nx=_∧StrsAre ys ((kH (es.take i) c).map one)) ?_ ?_ _ 0 [] _ (Nat.zero_add _) ⟨rfl,.nil⟩)
 ·rintro i ys nx v I oI C oC D m₂ h tk E' hi ⟨rfl,hys⟩ hP hC hx F N off ne
  obtain ⟨aT,k,u,t1,t2,nT,rfl,hget,hmem⟩:=ht.get i v (by simpa using hP)
  replace N:=News.add N (p:=(aT,_)) (.tail _ (.tail _ (.tail _ (.tail _ (.tail _ (.tail _ (.tail _ hmem)))))))
  have off0:=off
  simp only [LCg.Off3] at off
  have hko:k∈hdrChars:=hes _ (List.mem_of_getElem? hget)
  k_steps
  unfold aF
  dsimp only
  refine SCL.lower (by simp [Str.length]) fun _=>?_
  rw [oV hko]
  k_steps
  ·rename (Str.mk #[d7 k]==Str.mk #[d7 c])=true=>hq
   refine LCg.CompEnd.intro F N _ (fun p hp=>.tail _ hp) off0 (.inr ⟨_,.tail _ (.tail _ (.tail _ (.head _))),rfl,_,rfl⟩) ⟨rfl,?_⟩
   rw [List.take_add_one,hget]
   show StrsAre _ ((kH (List.take i es++[(k,u)]) c).map one)
   rw [oU,if_pos (by simpa using hq),List.map_append]
   exact StrsAre.snoc hys _ _
  ·rename (Str.mk #[d7 k]==Str.mk #[d7 c])=false=>hq
   refine LCg.CompEnd.intro F N _ (fun p hp=>.tail _ hp) off0 (.inr ⟨_,.tail _ (.tail _ (.tail _ (.head _))),rfl,_,rfl⟩) ⟨rfl,?_⟩
   rw [List.take_add_one,hget]
   show StrsAre _ ((kH (List.take i es++[(k,u)]) c).map one)
   rw [oU,if_neg (by simpa using hq)]
   exact hys
 ·rintro ys nx ⟨rfl,hys⟩
  have hsz:vs.toArray.size=es.length:=by rw [List.size_toArray];exact ht.length
  rw [hsz,List.take_length] at hys
  intro D9 h9 tk9 F9 N9 o9
  k_steps
  rename News h₀ L h9 ((_,_)::(_,_)::(x,_)::_)=>N8
  refine hret _ _ _ _ ⟨D9,ys,rfl,rfl,?_,hys⟩ ?_ (News.of N8 fun p hp=>?_)
  ·intro p hp
   have:=Off1.all o9 p (.tail _ (.tail _ (.tail _ (.tail _ hp))))
   exact this
  ·k_asm
  ·rcases cnX hp with rfl | hp
   ·exact .head _
   ·exact .tail _ (.tail _ (.tail _ (.tail _ (.tail _ hp))))
end Mine
end
section
namespace Mine
local macro_rules | `(tactic| k_all) => `(tactic| first | exact fun p hp => Nat.ne_of_lt (Nat.lt_add_right _ (kst_ltOf (by assumption) p hp)) | exact fun p hp => Nat.ne_of_lt (kst_ltOf (by assumption) p hp))
local macro_rules | `(tactic| k_all) => `(tactic| assumption)
structure KA (w:World) (news:List (Addr×Obj)) (x d l:Addr) (es:List (Nat×Nat)):Prop where
 inst:(x,instObj 317 d)∈news
 dict:∃ t0,(d,bx w l t0)∈news
 list:∃ (vs:List Value) (n:Nat),(l,W.listOf vs.toArray n)∈news∧Tups news vs es
local macro_rules | `(tactic| walk_at "call builtin:str.join") => `(tactic| refine cB ?_)
local macro_rules | `(tactic| walk_at "call builtin:list.append") => `(tactic| ((show wpAny _ _ (call _ [_, Value.ref _]) _ _ _); refine cB ?_))
local macro_rules | `(tactic| walk_at "call ref") => `(tactic| ((show wpAny _ _ (call (Value.ref 218) _ _) _ _ _); refine cB ?_))
theorem vR {w:World} {rest:List (Addr×Obj)} {x d l:Addr} {t0 t1 t2:Tok} {vs:List Value} {n c u:Nat} (hx:(x,instObj 317 d)∈rest) (hd0:(d,bx w l t0)∈rest) (hr:∀ p∈rest,p.1≠l) (hc:c∈hdrChars) (hcu:u∈hdrChars) (hle:vs.length≤4096) :
  ah w (.ref 314) [.ref x,.str (one c) t1,.str (one u) t2] [] 5 ((l,W.listOf vs.toArray n)::rest) (fun v nx=>v=.none∧∃ (D:Addr) (t8 t7:Tok),nx=(l,W.listOf (vs++[Value.ref D]).toArray (n + 1))::(D,({ cls:=.type "tuple",data:=.seq #[.str (one c) t8,.str (one u) t7] }:Obj))::rest∧D≠l∧∀ p∈rest,p.1≠D):=by
 (try unfold az);(try unfold ah);(try unfold bp);k_fill;intro p loose mean mg mb dp un gd cn nm b1 b2 mr a ccd cl outer A₀ base h₀ L m s Q E B F X N T hd hu hret
 have hxl:@Ne Nat x l:=hr _ hx
 have hdl:@Ne Nat d l:=hr _ hd0
 replace N:=News.add (News.add N (.tail _ hd0)) (.tail _ (.tail _ hx))
 k_steps
 unfold aF
 refine Al hcu (by k_asm) (by k_asm) (by k_asm) (by k_asm) (by k_asm) (by ktr_room) (by ktr_units) ?_
 rintro v9 nx9 h9 tk9 ⟨rfl,t9,rfl⟩ F9 N9
 dsimp only
 k_steps
 unfold aF
 refine vO hc (by k_asm) (by k_asm) (by k_asm) (by k_asm) (by k_asm) (by ktr_room) (by ktr_units) ?_
 rintro v8 nx8 h8 tk8 ⟨rfl,t8,rfl⟩ F8 N8
 dsimp only
 k_steps
 unfold aF
 rename News _ _ _ (_::(_,W.listOf #[Value.str _ _] _)::_)=>N7
 refine SC.join (l:=[(one u,_)]) (texts:=[one u]) (News.isList N7 (.tail _ (.head _))) rfl (joinOk_of (show ((1:Nat) + 0) + 1 * 2≤16777216 by decide)) fun t7 k7=>?_
 rw [show Txt.join (Str.ofString "; ") [one u]=one u from rfl]
 k_steps
 unfold aF
 rename News _ _ _ ((_,({ cls:=Value.type "tuple",data:=_ }:Obj))::_)=>N6
 rename_i D6 h6 F6 l6
 replace N6:=News.of (news':=(D6,({ cls:=.type "tuple",data:=.seq #[.str (one c) t8,.str (one u) t7] }:Obj))::(l,W.listOf vs.toArray n)::rest) N6 (fun p hp=>by
  rcases cnX hp with rfl | hp
  ·exact .head _
  ·rcases cnX hp with rfl | hp
   ·exact .tail _ (.tail _ (.tail _ (.tail _ (.tail _ (.tail _ (.head _))))))
   ·exact .tail _ (.tail _ (.tail _ (.tail _ (.tail _ (.tail _ (.tail _ hp)))))))
 have hDl:@Ne Nat D6 l:=Nat.ne_of_gt l6.2.2.2.2.2.1
 refine append_K (by k_asm) N6 (Upd.tail hDl (Upd.head hr)) (fun h5 F5 N5=>?_) (by rw [List.size_toArray];exact Nat.le_trans hle (aD rfl))
 rw [List.push_toArray] at N5
 k_steps
 rename News h₀ L h5 _=>N4
 refine hret _ _ _ _ ⟨rfl,D6,t8,t7,rfl,hDl,fun p hp=>Nat.ne_of_lt (kst_ltOf l6.2.2.2.2.2.2 p hp)⟩ ?_ (News.of N4 fun p hp=>?_)
 ·k_asm
 ·rcases cnX hp with rfl | hp
  ·exact .tail _ (.head _)
  ·rcases cnX hp with rfl | hp
   ·exact .head _
   ·exact .tail _ (.tail _ hp)
end Mine
end
section
namespace Mine
inductive Two (fixed nx:List (Addr×Obj)) (lb la:Addr) (eb ea:List (Nat×Nat)):Prop
 | mk (vb:List Value) (nb:Nat) (va:List Value) (na:Nat) (tups:List (Addr×Obj)):nx=(lb,W.listOf vb.toArray nb)::(la,W.listOf va.toArray na)::(tups++fixed)→Tups tups vb eb→Tups tups va ea→(∀ p∈tups,p.1≠lb∧p.1≠la∧∀ q∈fixed,p.1≠q.1)→Two fixed nx lb la eb ea
inductive Ex3 (A B C:List (Addr×Obj)→Prop):Prop
 | mk (x:List (Addr×Obj)):A x→B x→C x→Ex3 A B C
structure Tabs (w:World) (fixed:List (Addr×Obj)) (xb db lb xa da la:Addr):Prop where
 ib:(xb,instObj 317 db)∈fixed
 jb:∃ t,(db,bx w lb t)∈fixed
 ia:(xa,instObj 317 da)∈fixed
 ja:∃ t,(da,bx w la t)∈fixed
 ne:lb≠la
 off:∀ q∈fixed,q.1≠lb∧q.1≠la
theorem Tabs.more {w:World} {fixed:List (Addr×Obj)} {xb db lb xa da la:Addr} (T:Tabs w fixed xb db lb xa da la) {q:Addr×Obj} (h:q.1≠lb∧q.1≠la):Tabs w (q::fixed) xb db lb xa da la :=
 ⟨.tail _ T.ib,T.jb.imp fun _ h=>.tail _ h,.tail _ T.ia,T.ja.imp fun _ h=>.tail _ h,T.ne,fun p hp=>by
  rcases cnX hp with rfl | hp
  ·exact h
  ·exact T.off p hp⟩
theorem Two.fixed {fixed nx:List (Addr×Obj)} {lb la:Addr} {eb ea:List (Nat×Nat)} (T:Two fixed nx lb la eb ea):∀ p∈fixed,p∈nx:=by
 obtain ⟨vb,nb,va,na,tups,rfl,_⟩:=T
 exact fun p hp=>.tail _ (.tail _ (apR hp))
theorem Two.more {fixed nx:List (Addr×Obj)} {lb la:Addr} {eb ea:List (Nat×Nat)} (T:Two fixed nx lb la eb ea) {q:Addr×Obj} (h:∀ p∈nx,p.1≠q.1):Ex3 (fun nx'=>Two (q::fixed) nx' lb la eb ea) (fun nx'=>∀ p∈nx',p∈q::nx) (fun _=>q.1≠lb∧q.1≠la):=by
 obtain ⟨vb,nb,va,na,tups,rfl,hb,ha,hp⟩:=T
 refine ⟨_,⟨vb,nb,va,na,tups,rfl,hb,ha,fun p hm=>⟨(hp p hm).1,(hp p hm).2.1,fun r hr=>?_⟩⟩,fun p hm=>?_,fun e=>h _ (.head _) e.symm,fun e=>h _ (.tail _ (.head _)) e.symm⟩
 ·rcases cnX hr with rfl | hr
  ·exact h p (.tail _ (.tail _ (apL hm)))
  ·exact (hp p hm).2.2 r hr
 ·rcases cnX hm with rfl | hm
  ·exact .tail _ (.head _)
  ·rcases cnX hm with rfl | hm
   ·exact .tail _ (.tail _ (.head _))
   ·rcases apX hm with hm | hm
    ·exact .tail _ (.tail _ (.tail _ (apL hm)))
    ·rcases cnX hm with rfl | hm
     ·exact .head _
     ·exact .tail _ (.tail _ (.tail _ (apR hm)))
theorem Two.less {fixed nx:List (Addr×Obj)} {lb la:Addr} {eb ea:List (Nat×Nat)} {q:Addr×Obj} (T:Two (q::fixed) nx lb la eb ea) (h:q.1≠lb∧q.1≠la) (hf:∀ p∈fixed,p.1≠q.1):Ex3 (fun nx'=>Two fixed nx' lb la eb ea) (fun nx'=>∀ p∈nx',p∈nx) (fun nx'=>∀ p∈nx',p.1≠q.1):=by
 obtain ⟨vb,nb,va,na,tups,rfl,hb,ha,hp⟩:=T
 refine ⟨_,⟨vb,nb,va,na,tups,rfl,hb,ha,fun p hm=>⟨(hp p hm).1,(hp p hm).2.1,fun r hr=>(hp p hm).2.2 r (.tail _ hr)⟩⟩,fun p hm=>?_,fun p hm=>?_⟩
 ·rcases cnX hm with rfl | hm
  ·exact .head _
  ·rcases cnX hm with rfl | hm
   ·exact .tail _ (.head _)
   ·rcases apX hm with hm | hm
    ·exact .tail _ (.tail _ (apL hm))
    ·exact .tail _ (.tail _ (apR (.tail _ hm)))
 ·rcases cnX hm with rfl | hm
  ·exact Ne.symm h.1
  ·rcases cnX hm with rfl | hm
   ·exact Ne.symm h.2
   ·rcases apX hm with hm | hm
    ·exact (hp p hm).2.2 q (.head _)
    ·exact hf p hm
theorem Tups.names {news:List (Addr×Obj)} {vs es} (h:Tups news vs es) {news':List (Addr×Obj)} (hs:∀ p∈news,p∈news'):Tups news' vs es:=h.mono fun a o hm _=>hs _ hm
abbrev kI (es:List (Nat×Nat)):Prop:=∀ e∈es,e.1∈hdrChars
section
variable {w:World} {fixed nx:List (Addr×Obj)} {xb db lb xa da la:Addr} {eb ea:List (Nat×Nat)} {c u:Nat} {t t1 t2:Tok}
theorem Fu {news:List (Addr×Obj)} (T:Two fixed nx lb la eb ea) (H:Tabs w fixed xb db lb xa da la) (hs:∀ p∈nx,p∈news) (hc:c∈hdrChars) (hes:kI eb) (hle:eb.length≤4096):ah w (.ref 256) [.ref xb,.str (one c) t] [] 5 news (fun v nx'=>∃ (D:Addr) (ys:List Value),v=.ref D∧nx'=(D,W.listOf ys.toArray ys.length)::news∧(∀ p∈news,p.1≠D)∧StrsAre ys ((kH eb c).map one)):=by
 obtain ⟨t0,hj⟩:=H.jb
 have hf:=T.fixed
 obtain ⟨vb,nb,va,na,tups,rfl,hb,ha,hp⟩:=T
 intro p loose mean mg mb dp un gd cn nm b1 b2 mr a ccd cl outer A₀ base h₀ L m s Q E B F X N T hd hu hret
 exact vQ (hs _ (hf _ H.ib)) (hs _ (hf _ hj)) (hs _ (.head _)) (hb.names fun p hm=>hs _ <| .tail _ (.tail _ (apL hm))) hc hes hle B F X N T hd hu hret
theorem Fv {news:List (Addr×Obj)} (T:Two fixed nx lb la eb ea) (H:Tabs w fixed xb db lb xa da la) (hs:∀ p∈nx,p∈news) (hc:c∈hdrChars) (hes:kI ea) (hle:ea.length≤4096):ah w (.ref 256) [.ref xa,.str (one c) t] [] 5 news (fun v nx'=>∃ (D:Addr) (ys:List Value),v=.ref D∧nx'=(D,W.listOf ys.toArray ys.length)::news∧(∀ p∈news,p.1≠D)∧StrsAre ys ((kH ea c).map one)):=by
 obtain ⟨t0,hj⟩:=H.ja
 have hf:=T.fixed
 obtain ⟨vb,nb,va,na,tups,rfl,hb,ha,hp⟩:=T
 intro p loose mean mg mb dp un gd cn nm b1 b2 mr a ccd cl outer A₀ base h₀ L m s Q E B F X N T hd hu hret
 exact vQ (hs _ (hf _ H.ia)) (hs _ (hf _ hj)) (hs _ (.tail _ (.head _))) (ha.names fun p hm=>hs _ <| .tail _ (.tail _ (apL hm))) hc hes hle B F X N T hd hu hret
theorem Tups.snoc {news:List (Addr×Obj)} {vs es} (h:Tups news vs es) {a:Addr} {k v n:Nat} {t1 t2:Tok} (hm:(a,({ cls:=.type "tuple",data:=.seq #[.str (one k) t1,.str (one v) t2] n }:Obj))∈news):Tups news (vs++[Value.ref a]) (es++[(k,v)]):=by
 induction h with
 | nil=>exact .cons a k v t1 t2 n hm .nil
 | cons b k' v' s1 s2 n' hm' hr ih=>exact .cons b k' v' s1 s2 n' hm' ih
theorem IC (T:Two fixed nx lb la eb ea) (H:Tabs w fixed xb db lb xa da la) (hc:c∈hdrChars) (hcu:u∈hdrChars) (hle:eb.length≤4096):ah w (.ref 314) [.ref xb,.str (one c) t1,.str (one u) t2] [] 5 nx (fun v nx'=>v=.none∧Two fixed nx' lb la (eb++[(c,u)]) ea):=by
 obtain ⟨t0,hj⟩:=H.jb
 obtain ⟨vb,nb,va,na,tups,rfl,hb,ha,hp⟩:=T
 intro p loose mean mg mb dp un gd cn nm b1 b2 mr a ccd cl outer A₀ base h₀ L m s Q E B F X N T hd hu hret
 refine vR (rest:=(la,W.listOf va.toArray na)::(tups++fixed)) (.tail _ (apR H.ib)) (.tail _ (apR hj)) (fun q hq=>?_) hc hcu (by rw [hb.length];exact hle) B F X N T hd hu ?_
 ·rcases cnX hq with rfl | hq
  ·exact Ne.symm H.ne
  ·rcases apX hq with hq | hq
   ·exact (hp q hq).1
   ·exact (H.off q hq).1
 ·rintro v nx' h' tk ⟨rfl,D,t8,t7,rfl,hDl,hD⟩ F' N'
  refine hret _ ((lb,W.listOf (vb++[Value.ref D]).toArray (nb + 1))::(la,W.listOf va.toArray na)::((D,({ cls:=.type "tuple",data:=.seq #[.str (one c) t8,.str (one u) t7] }:Obj))::tups++fixed)) _ _ ⟨rfl,_,_,_,_,_,rfl,?_,?_,?_⟩ F' (News.of N' fun q hq=>?_)
  ·exact (hb.names fun q hq=>.tail _ hq).snoc (.head _)
  ·exact ha.names fun q hq=>.tail _ hq
  ·intro q hq
   rcases cnX hq with rfl | hq
   ·exact ⟨hDl,fun e=>hD _ (.head _) e.symm,fun r hr e=>hD r (.tail _ (apR hr)) e.symm⟩
   ·exact hp q hq
  ·simp only [List.mem_cons,List.mem_append,List.cons_append] at hq ⊢
   rcases hq with h | h | h | h | h <;> simp [h]
theorem ID (T:Two fixed nx lb la eb ea) (H:Tabs w fixed xb db lb xa da la) (hc:c∈hdrChars) (hcu:u∈hdrChars) (hle:ea.length≤4096):ah w (.ref 314) [.ref xa,.str (one c) t1,.str (one u) t2] [] 5 nx (fun v nx'=>v=.none∧Two fixed nx' lb la eb (ea++[(c,u)])):=by
 obtain ⟨t0,hj⟩:=H.ja
 obtain ⟨vb,nb,va,na,tups,rfl,hb,ha,hp⟩:=T
 intro p loose mean mg mb dp un gd cn nm b1 b2 mr a ccd cl outer A₀ base h₀ L m s Q E B F X N T hd hu hret
 refine vR (vs:=va) (n:=na) (rest:=(lb,W.listOf vb.toArray nb)::(tups++fixed)) (.tail _ (apR H.ia)) (.tail _ (apR hj)) (fun q hq=>?_) hc hcu (by rw [ha.length];exact hle) B F X (News.of N fun q hq=>?_) T hd hu ?_
 ·rcases cnX hq with rfl | hq
  ·exact H.ne
  ·rcases apX hq with hq | hq
   ·exact (hp q hq).2.1
   ·exact (H.off q hq).2
 ·simp only [List.mem_cons,List.mem_append] at hq ⊢
  rcases hq with h | h | h | h <;> simp [h]
 ·rintro v nx' h' tk ⟨rfl,D,t8,t7,rfl,hDl,hD⟩ F' N'
  refine hret _ ((lb,W.listOf vb.toArray nb)::(la,W.listOf (va++[Value.ref D]).toArray (na + 1))::((D,({ cls:=.type "tuple",data:=.seq #[.str (one c) t8,.str (one u) t7] }:Obj))::tups++fixed)) _ _ ⟨rfl,_,_,_,_,_,rfl,?_,?_,?_⟩ F' (News.of N' fun q hq=>?_)
  ·exact hb.names fun q hq=>.tail _ hq
  ·exact (ha.names fun q hq=>.tail _ hq).snoc (.head _)
  ·intro q hq
   rcases cnX hq with rfl | hq
   ·exact ⟨fun e=>hD _ (.head _) e.symm,hDl,fun r hr e=>hD r (.tail _ (apR hr)) e.symm⟩
   ·exact hp q hq
  ·simp only [List.mem_cons,List.mem_append,List.cons_append] at hq ⊢
   rcases hq with h | h | h | h | h <;> simp [h]
end
end Mine
end
section
namespace Mine
theorem Gm {c:Nat} (h:c < 1114112):PyData.strOk (one c)=true:=by simp [PyData.strOk,one,h]
theorem q5:∀ ss:List Nat,(∀ c∈ss,c < 1114112)→PyData.canLayAll0 ((ss.map one).map PyData.str)=true
 | [],_=>rfl
 | c :: r, h => by
  have:=q5 r fun x hx=>h x (.tail _ hx)
  simp only [List.map_cons,PyData.canLayAll0,PyData.canLay0,this,Gm (h c (.head _)),Bool.and_self]
theorem oW:∀ ss:List Str,PyData.depthAll (ss.map PyData.str)=0:=by
 intro zz
 induction zz with
 | nil =>
  exact rfl
 | cons _ r ih =>
  simp [PyData.depthAll,PyData.depth,ih]
theorem fN (ss:List Nat) (h5:∀ c∈ss,c < 1114112):SeqAt.shaped (.list ((ss.map one).map PyData.str))=true:=by
 have h1:=q5 ss h5
 have h2:=oW (ss.map one)
 simp only [SeqAt.shaped,PyData.canLay0,PyData.depth,h1,h2]
 decide
theorem r9:∀ ns ms:List Str,PySem.Spec.sameAll (ns.map PyData.str) (ms.map PyData.str)=decide (ns=ms):=by
 intro rs
 induction rs with
 | nil=>intro ts;cases ts <;> simp [PySem.Spec.sameAll]
 | cons a r ih =>
  intro ts
  cases ts with
  | nil=>simp [PySem.Spec.sameAll]
  | cons b t =>
   simp only [List.map_cons,PySem.Spec.sameAll,PySem.Spec.same,ih t]
   by_cases h:a=b <;> by_cases h':r=t <;> simp [h,h']
theorem ni (ns ms:List Str):PySem.Spec.same (.list (ns.map PyData.str)) (.list (ms.map PyData.str))=decide (ns=ms):=by
 simp only [PySem.Spec.same];exact r9 ns ms
theorem dg:∀ {vs:List Value} {ns:List Str},StrsAre vs ns→CarriedAll vs (ns.map PyData.str):=by
 intro z0 z1 zz
 induction zz with
 | nil =>
  exact .nil
 | cons _ t r ih =>
  exact .cons (.str _ t) ih
theorem Aq:∀ {a b:List Nat},a.map one=b.map one→a=b:=by
 intro a
 induction a with
 | nil => intro b h; cases b with
  | nil=>rfl
  | cons=>cases h
 | cons x a ih => intro b h; cases b with
  | nil=>cases h
  | cons y b =>
   simp only [List.map_cons,List.cons.injEq] at h
   have:x=y:=by simpa [one] using h.1
   rw [this,ih h.2]
theorem nj (a b:List Nat):decide (a.map one=b.map one)=decide (a=b):=decide_eq_decide.mpr ⟨Aq,fun h=>h▸rfl⟩
section
variable {prog:Program} {w:World} {A:Around} {E:Value→Shared→Prop} {s:Shared} {a b:Addr} {xs ys:List Value} {ns ms:List Nat} {Q:Value→Shared→Prop}
theorem C7 (ha:s.heap.IsList a xs.toArray) (hb:s.heap.IsList b ys.toArray) (hi:StrsAre xs (ns.map one)) (hj:StrsAre ys (ms.map one)) (h1:∀ c∈ns,c < 1114112) (h2:∀ c∈ms,c < 1114112) (hu:A.units + 64 < cLine) (h:Q (.bool (decide (ns=ms))) s) :
  wpAny (model prog w) A (compareOp .Eq (.ref a) (.ref b)) Q E s :=
 eq_dataH_same (reads_newData ha (dg hi)) (reads_newData hb (dg hj)) (fN _ h1) (fN _ h2) hu (SeqAt.noMix_of_shape (.list .str) rfl _ _ (list_map_has fun _=>rfl) (list_map_has fun _=>rfl)) (by rw [ni,nj];exact h)
theorem vT (ha:s.heap.IsList a xs.toArray) (hb:s.heap.IsList b ys.toArray) (hi:StrsAre xs (ns.map one)) (hj:StrsAre ys (ms.map one)) (h1:∀ c∈ns,c < 1114112) (h2:∀ c∈ms,c < 1114112) (hu:A.units + 64 < cLine) (h:Q (.bool (!decide (ns=ms))) s) :
  wpAny (model prog w) A (compareOp .NotEq (.ref a) (.ref b)) Q E s :=
 ne_dataH_same (reads_newData ha (dg hi)) (reads_newData hb (dg hj)) (fN _ h1) (fN _ h2) hu (SeqAt.noMix_of_shape (.list .str) rfl _ _ (list_map_has fun _=>rfl) (list_map_has fun _=>rfl)) (by rw [ni,nj];exact h)
end
end Mine
end
section
namespace Mine
inductive PV
 | v (x:Value) | i (n:Int) | f (x:UInt64) | s (z:Str)
def PV.Is:PV→Value→Prop
 | .v x,y=>y=x
 | .i n,y=>∃ t,y=.int n t
 | .f x,y=>∃ t,y=.float x t
 | .s z,y=>∃ t,y=.str z t
theorem PV.ex:∀ p:PV,∃ y,p.Is y
 | .v x=>⟨x,rfl⟩
 | .i n=>⟨.int n 0,0,rfl⟩
 | .f n=>⟨.float n 0,0,rfl⟩
 | .s n=>⟨.str n 0,0,rfl⟩
noncomputable abbrev PM:=List (Str×PV)
noncomputable abbrev Led:=List (Addr×Obj)
noncomputable def leq:List Nat→List Nat→Bool
 | [],l=>(match l with | []=>true | _::_=>false)
 | a::x,l=>(match l with | []=>false | b::y=>(match Nat.beq a b with | true=>leq x y | false=>false))
theorem Gn:∀ {x y:List Nat},leq x y=true→x=y:=by
 intro x
 induction x with
 | nil => intro y h; cases y with
  | nil=>rfl
  | cons=>exact bA h
 | cons a x ih => intro y h; cases y with
  | nil=>exact bA h
  | cons b y =>
   have h:(match Nat.beq a b with | true=>leq x y | false=>false)=true:=h
   cases e:Nat.beq a b with
   | true=>rw [e] at h;rw [Nat.eq_of_beq_eq_true e,ih h]
   | false=>rw [e] at h;exact bA h
theorem sa:∀ x:List Nat,leq x x=true
 | []=>rfl
 | a :: x => by
  show (match Nat.beq a a with | true=>leq x x | false=>false)=true
  rw [Nat.beq_refl a];exact sa x
noncomputable def sEq (x y:Str):Bool:=leq x.cps.toList y.cps.toList
theorem dm {x y:Str} (h:sEq x y=true):x=y:=by
 cases x;cases y
 have:=Gn h
 simp only [Array.toList_inj] at this
 rw [this]
theorem dh (x:Str):sEq x x=true:=sa _
noncomputable def look:PM→Str→Option PV
 | [],_=>none
 | p::r,x=>(match sEq p.1 x with | true=>some p.2 | false=>look r x)
noncomputable def put (x:Str) (v:PV):PM→PM
 | []=>[(x,v)]
 | p::r=>(match sEq p.1 x with | true=>(p.1,v)::r | false=>p::put x v r)
theorem nk (x:Str) (v:PV) (y:Str):∀ m:PM,look (put x v m) y=(match sEq x y with | true=>some v | false=>look m y):=by
 intro zz
 induction zz with
 | nil =>
  exact rfl
 | cons p r ih =>
  unfold put
  cases e:sEq p.1 x with
  | true =>
   have:=dm e
   subst this
   show (match sEq p.1 y with | true=>some v | false=>look r y)=_
   cases e2:sEq p.1 y with
   | true=>rfl
   | false =>
    show look r y=(match sEq p.1 y with | true=>some p.2 | false=>look r y)
    rw [e2]
  | false =>
   show (match sEq p.1 y with | true=>some p.2 | false=>look (put x v r) y)=_
   rw [ih]
   cases e2:sEq p.1 y with
   | true =>
    cases e3:sEq x y with
    | true =>
     have h1:=dm e2
     have h2:=dm e3
     rw [h1,h2,dh] at e;exact kE e
    | false =>
     show some p.2=(match sEq p.1 y with | true=>some p.2 | false=>look r y)
     rw [e2]
   | false =>
    cases e3:sEq x y with
    | true=>rfl
    | false =>
     show look r y=(match sEq p.1 y with | true=>some p.2 | false=>look r y)
     rw [e2]
def PV.Le:PV→PV→Prop
 | .i n,q=>(match q with | .i m=>n=m | _=>False)
 | .f n,q=>(match q with | .f m=>n=m | _=>False)
 | .s n,q=>(match q with | .s m=>n=m | _=>False)
 | .v x, q => (match q with
  | .v y=>x=y
  | .i m=>(match x with | .int n _=>n=m | _=>False)
  | .f m=>(match x with | .float n _=>n=m | _=>False)
  | .s m=>(match x with | .str n _=>n=m | _=>False))
theorem PV.Le.is {p q:PV} (h:p.Le q) {y:Value} (hy:p.Is y):q.Is y:=by
 cases p with
 | i n=>cases q <;> first | exact h.elim | (have h:=h;obtain rfl:=h;exact hy)
 | f n=>cases q <;> first | exact h.elim | (have h:=h;obtain rfl:=h;exact hy)
 | s n=>cases q <;> first | exact h.elim | (have h:=h;obtain rfl:=h;exact hy)
 | v x =>
  obtain rfl:=hy
  cases q with
  | v y=>exact h
  | i m=>cases y <;> first | exact h.elim | (have h:=h;obtain rfl:=h;exact ⟨_,rfl⟩)
  | f m=>cases y <;> first | exact h.elim | (have h:=h;obtain rfl:=h;exact ⟨_,rfl⟩)
  | s m=>cases y <;> first | exact h.elim | (have h:=h;obtain rfl:=h;exact ⟨_,rfl⟩)
def Gp:Option PV→PV→Prop
 | some u,p=>u.Le p
 | none,_=>False
def Sub:PM→PM→Prop
 | [],_=>True
 | p::r,b=>Gp (look b p.1) p.2∧Sub r b
theorem Sub.look {b:PM}:∀ {a:PM},Sub a b→∀ {x:Str} {v:PV},look a x=some v→∃ u,look b x=some u∧u.Le v:=by
 intro zz
 induction zz with
 | nil =>
  intro _ x v h
  exact aV h
 | cons p r ih =>
  intro hs x v h
  have h:(match sEq p.1 x with | true=>some p.2 | false=>Mine.look r x)=some v:=h
  cases e:sEq p.1 x with
  | true =>
   rw [e] at h;cases h;rw [← dm e]
   have:=hs.1
   cases e2:Mine.look b p.1 with
   | none=>rw [e2] at this;exact this.elim
   | some u=>rw [e2] at this;exact ⟨u,rfl,this⟩
  | false=>rw [e] at h;exact ih hs.2 h
theorem PV.Le.refl (p:PV):p.Le p:=by cases p <;> rfl
noncomputable def lkK:List (Str×NameKind)→Str→Option NameKind
 | [],_=>none
 | p::r,x=>(match sEq p.1 x with | true=>some p.2 | false=>lkK r x)
theorem bB {x:Str} {k:NameKind}:∀ {ns:List (Str×NameKind)},lkK ns x=some k→ns.lookup x=some k:=by
 intro zz
 induction zz with
 | nil =>
  intro h
  exact aV h
 | cons p r ih =>
  intro h
  have h:(match sEq p.1 x with | true=>some p.2 | false=>lkK r x)=some k:=h
  rw [List.lookup_cons]
  cases e:sEq p.1 x with
  | true =>
   rw [e] at h
   rw [← dm e]
   simpa using h
  | false =>
   rw [e] at h
   have:(x==p.1)=false:=by
    cases e2:x==p.1 with
    | true=>rw [eq_of_beq e2,dh] at e;exact kE e
    | false=>rfl
   rw [this]
   exact ih h
theorem cellsFrom_names:∀ (r:List (Str×NameKind)) (n k:Nat) (acc acc':List (Str×Addr)),acc.map (·.1)=acc'.map (·.1)→(cellsFrom n r acc).map (·.1)=(cellsFrom k r acc').map (·.1):=by
 intro zz
 induction zz with
 | nil =>
  intro _ _ _ _ h
  exact h
 | cons yy r ih =>
  obtain ⟨y,kd⟩:=yy
  intro n k acc acc' h
  unfold cellsFrom
  cases kd==.cell
  ·exact ih n k acc acc' h
  ·exact ih (n + 1) (k + 1) _ _ (by rw [List.map_cons,List.map_cons,h])
theorem dT {m:Nat}:∀ (r:List (Str×NameKind)) (n:Nat) (acc:List (Str×Addr)),m≤n→(acc.map (·.2)).Nodup→(∀ p∈acc,m≤p.2∧p.2 < n)→((cellsFrom n r acc).map (·.2)).Nodup∧∀ p∈cellsFrom n r acc,m≤p.2:=by
 intro zz
 induction zz with
 | nil =>
  intro _ _ _ h1 h2
  exact ⟨h1,fun p hp=>(h2 p hp).1⟩
 | cons yy r ih =>
  obtain ⟨y,kd⟩:=yy
  intro n acc hm h1 h2
  unfold cellsFrom
  cases kd==.cell
  ·exact ih n acc hm h1 h2
  ·refine ih (n + 1) _ (Nat.le_succ_of_le hm) ?_ fun p hp=>?_
   ·rw [List.map_cons,List.nodup_cons]
    refine ⟨fun hq=>?_,h1⟩
    obtain ⟨p,hp,e⟩:=List.mem_map.mp hq
    have:=(h2 p hp).2
    rw [e] at this
    exact Nat.lt_irrefl _ this
   ·rcases cnX hp with rfl | hp
    ·exact ⟨hm,Nat.lt_succ_self _⟩
    ·exact ⟨(h2 p hp).1,Nat.lt_succ_of_lt (h2 p hp).2⟩
theorem fP {cm:Str→Option Value}:∀ {cl:List (Str×Addr)} {os:Led},CellsAre cm cl os→os.map (·.1)=cl.map (·.2):=by
 intro z0 z1 zz
 induction zz with
 | nil =>
  exact rfl
 | cons _ r ih =>
  rw [List.map_cons,List.map_cons,ih]
inductive Fw (os:Led) (c:Addr) (v:Option Value):Prop
 | mk (o:Obj):(c,o)∈os→o.data=.cell v→Fw os c v
theorem dH {cm:Str→Option Value} {x:Str} {c:Addr}:∀ {cl:List (Str×Addr)} {os:Led},CellsAre cm cl os→(x,c)∈cl→Fw os c (cm x):=by
 intro z0 z1 zz
 induction zz with
 | nil=>exact nofun
 | cons h r ih =>
  intro hm
  rcases cnX hm with e | hm
  ·cases e;exact ⟨_,.head _,h⟩
  ·obtain ⟨o,h1,h2⟩:=ih hm;exact ⟨o,.tail _ h1,h2⟩
theorem mem_of_lookup {x:Str} {c:Addr}:∀ {cl:List (Str×Addr)},cl.lookup x=some c→(x,c)∈cl:=by
 intro zz
 induction zz with
 | nil=>exact nofun
 | cons yy r ih =>
  obtain ⟨y,d⟩:=yy
  intro h
  rw [List.lookup_cons] at h
  cases e:x==y with
  | true=>rw [e] at h;cases h;rw [eq_of_beq e];exact .head _
  | false=>rw [e] at h;exact .tail _ (ih h)
theorem lD {cm:Str→Option Value} {x:Str} {c:Addr} {v:Value} {o':Obj} (hd:o'.data=.cell (some v)):∀ {cl:List (Str×Addr)} {os:Led},CellsAre cm cl os→(x,c)∈cl→(cl.map (·.1)).Nodup →
  CellsAre (fun y=>if y=x then some v else cm y) cl (os.map fun p=>if p.1=c then (c,o') else p)∨¬ (cl.map (·.2)).Nodup
 | _,_,.nil,hm,_=>nomatch hm
 | (y, d) :: cl, (_, o) :: os, .cons h r, hm, hn => by
  rw [List.map_cons,List.nodup_cons] at hn
  by_cases hdup:(d::cl.map (·.2)).Nodup
  ·left
   rw [List.nodup_cons] at hdup
   rcases cnX hm with e | hm
   ·cases e
    rw [List.map_cons,if_pos rfl]
    refine .cons (by rw [if_pos rfl];exact hd) ?_
    have e2:(os.map fun p=>if p.1=c then (c,o') else p)=os:=by
     conv=>rhs;rw [← List.map_id os]
     refine List.map_congr_left fun p hp=>?_
     rw [if_neg];rfl
     intro e
     refine hdup.1 ?_
     rw [← fP r, ← e]
     exact List.mem_map_of_mem hp
    rw [e2]
    have:∀ {cl:List (Str×Addr)} {os:Led},CellsAre cm cl os→x∉cl.map (·.1)→CellsAre (fun y=>if y=x then some v else cm y) cl os:=by
     intro cl os r
     induction r with
     | nil=>intro _;exact .nil
     | cons h r ih =>
      intro hx
      rw [List.map_cons,List.mem_cons,not_or] at hx
      exact .cons (by rw [if_neg (Ne.symm hx.1)];exact h) (ih hx.2)
    exact this r hn.1
   ·have hne:y≠x:=fun e=>hn.1 (e▸List.mem_map_of_mem (f:=(·.1)) hm)
    have hdc:d≠c:=fun e=>hdup.1 (e▸List.mem_map_of_mem (f:=(·.2)) hm)
    rw [List.map_cons,if_neg hdc]
    refine .cons (by rw [if_neg hne];exact h) ?_
    exact (lD hd r hm hn.2).resolve_right (not_not_intro hdup.2)
  ·exact .inr hdup
structure Cx where
 dp:Nat
 un:Nat
 gd:Option (List Code)
 cn:Str
 L:Addr
 a:Addr
 ccd:Value
 cl:List (Str×Addr)
 outer:List Env
 A₀:Around
 base:Heap
 h₀:Heap
 s:Shared
 p:Program
 loose:List Str
 mean:ExcName→Option Value
 mg:Str→Option Value
 mb:Str→Option Value
noncomputable def globT:List (Str×Value):=[("bisect_left",.ref 74),("bisect_right",.ref 56),("insort_left",.ref 65),("insort_right",.ref 47),("ONE_THIRD",.float 4599676419421066581 349),("ONE_SIXTH",.float 4595172819793696085 353),("TWO_THIRD",.float 4604180019048437077 357),("_v",.ref 95),("b1_set",.ref 117),("b3_exceptions",.ref 128),("Headers",.ref 317),("_law_cells",.ref 328),("_law_typed",.ref 335),("_law_grown",.ref 342),("_law_masks",.ref 347),("_law_refused",.ref 354),("_law_steps",.ref 359),("_law_painted",.ref 364),("hsv_to_rgb",.ref 109),("rgb_to_hls",.ref 81),("hls_to_rgb",.ref 88),("rgb_to_hsv",.ref 102),("in_table_b1",.ref 127),("map_table_b3",.ref 173),("_name_disallowed_re",.ref 183),("_value_disallowed_re",.ref 188),("_formatparam",.ref 196)]
noncomputable def bootT:List (Str×Value):=[("max",.builtin "max"),("min",.builtin "min"),("int",.type "int"),("len",.builtin "len"),("ord",.builtin "ord"),("range",.type "range"),("enumerate",.type "enumerate"),("sorted",.builtin "sorted"),("chr",.builtin "chr"),("sum",.builtin "sum"),("str",.type "str"),("type",.type "type"),("ValueError",.type "ValueError"),("list",.type "list")]
noncomputable def lkV:List (Str×Value)→Str→Option Value
 | [],_=>none
 | p::r,x=>(match sEq p.1 x with | true=>some p.2 | false=>lkV r x)
theorem vU {x:Str} {v:Value}:∀ {l:List (Str×Value)},lkV l x=some v→(x,v)∈l:=by
 intro zz
 induction zz with
 | nil=>exact nofun
 | cons p r ih =>
  intro h
  have h:(match sEq p.1 x with | true=>some p.2 | false=>lkV r x)=some v:=h
  cases e:sEq p.1 x with
  | true=>rw [e] at h;cases h;rw [← dm e];exact .head _
  | false=>rw [e] at h;exact .tail _ (ih h)
noncomputable def Ar (o:Option (Option Value)) (v:Value):Bool:=match o with | some (some u)=>decide (u=v) | _=>false
noncomputable def As (o:Option (Option Value)):Bool:=match o with | some none=>true | _=>false
noncomputable def Fx (o:Option Value) (v:Value):Bool:=match o with | some u=>decide (u=v) | _=>false
theorem Au (P:Params):(globT.all fun p=>Ar (nsIn (K P) mainGlobals p.1) p.2 && !(p.1==("__debug__":Str)))=true:=by kernel_rfl
theorem Av (P:Params):(bootT.all fun p=>As (nsIn (K P) mainGlobals p.1) && Fx (bootBuiltins p.1) p.2 && !(p.1==("__debug__":Str)) && !(p.1==("__name__":Str)))=true:=by kernel_rfl
noncomputable def Aw (sc:Scope) (x:Str):Option Value:=match lkK sc.names x with
 | some .globalImplicit => (match lkV globT x with
  | some v=>some v
  | none=>lkV bootT x)
 | _=>none
noncomputable def fQ (x:Str):Bool:=match sEq x "__debug__" with | true=>false | false=>true
theorem dI {x:Str} (h:fQ x=true):(x==("__debug__":Str))=false:=by
 cases e:x==("__debug__":Str) with
 | true=>rw [eq_of_beq e] at h;unfold fQ at h;rw [dh] at h;exact bA h
 | false=>rfl
noncomputable def q6 (sc:Scope) (x:Str):Bool:=match lkK sc.names x with
 | some .local=>fQ x
 | some .cell=>fQ x
 | _=>false
noncomputable def fnT:List Nat:=[47,56,65,74,81,88,95,102,109,127,173,196,211,218,256,314,328,335,342,347,354,359,364]
noncomputable def fnB (a:Nat):Bool:=fnT.any fun b=>Nat.beq b a
noncomputable def isFun (K:Frag) (a:Nat):Bool:=match K.lookup a with | some ⟨_,_,.func _,_⟩=>true | _=>false
theorem Gq (P:Params):(fnT.all fun a=>isFun (K P) a)=true:=by kernel_rfl
structure Cx.Ok (C:Cx) (w:World) (sc:Scope) (D:Nat):Prop where
 B:Below C.A₀ C.base C.outer C.h₀
 X:(K w.params).In C.h₀
 T:Top C.p C.loose C.mean C.mg C.mb C.h₀
 kind:sc.kind=.function
 dp:C.dp + D < recursionLimit
 un:C.un + 8 * D < cLine
 names:(C.cl.map (·.1)).Nodup
 addrs:(C.cl.map (·.2)).Nodup
 cells:∀ x,sc.names.lookup x=some .cell→∃ c,C.cl.lookup x=some c
structure Fm where
 w:World
 A:Around
 env:Env
 R:PM→Led→Shared→Prop
 sto:Str→Bool
 cell:Str→Option Addr
 C:Cx
 sc:Scope
noncomputable def Fm.glob (F:Fm) (x:Str):Option Value:=Aw F.env.scope x
noncomputable def Fm.fn (_:Fm) (a:Addr):Bool:=fnB a
abbrev NoE:Value→Shared→Prop:=fun _ _=>False
noncomputable abbrev Fm.M (F:Fm):Model:=model PySem.Challenge.rw_tc0096_01.prog F.w
def Fm.CellIn (F:Fm) (pm:PM) (os:Led):Prop:=∀ x pv c,look pm x=some pv→F.cell x=some c→∃ o v,(c,o)∈os∧o.data=.cell (some v)∧pv.Is v
inductive Fm.Opc (F:Fm) (pm:PM) (nx:Led) (s:Shared):Prop
 | mk (m : Str → Option Value) (os : Led) : Fr F.C.h₀ F.C.L s.heap m → News F.C.h₀ F.C.L s.heap (os ++ nx) → (∀ p ∈ os, ∀ q ∈ nx, p.1 ≠ q.1) → F.CellIn pm os →
  (∀ h' tk' nx',Fr F.C.h₀ F.C.L h' m→News F.C.h₀ F.C.L h' (os++nx')→(∀ p∈os,∀ q∈nx',p.1≠q.1)→F.R pm nx' { s with heap:=h',toks:=tk' })→Fm.Opc F pm nx s
structure Fm.Ok (F:Fm):Prop where
 hA:F.A=ktrTop F.C.dp F.C.un F.C.gd F.C.cn F.sc F.C.L F.C.a F.C.ccd F.C.cl F.C.outer
 gr:∃ D,F.C.Ok F.w F.sc D
 kind:F.env.scope.kind=.function
 glb:F.env.globals=mainGlobals
 blt:F.env.builtins=builtinsNs
 opc:∀ {pm nx s},F.R pm nx s→F.Opc pm nx s
 pms:∀ {pm pm' nx s},F.R pm nx s→Sub pm' pm→F.R pm' nx s
 load:∀ {pm nx s x pv},F.R pm nx s→look pm x=some pv→(x==("__debug__":Str))=false∧∀ {P:Value→Shared→Prop},(∀ v,pv.Is v→P v s)→wpAny F.M F.A (loadName F.env x) P NoE s
 store:∀ {pm nx s x pv v} {P:Unit→Shared→Prop},F.sto x=true→F.R pm nx s→pv.Is v→(∀ s',F.R (put x pv pm) nx s'→P () s')→wpAny F.M F.A (storeName F.env x v) P NoE s
section
variable {F:Fm} {pm pm':PM} {nx nx':Led} {s:Shared}
theorem Fm.Ok.cellR (ok:F.Ok) {x:Str} {pv:PV} {c:Addr} (h:F.R pm nx s) (hl:look pm x=some pv) (hc:F.cell x=some c):∃ o v,s.heap.get? c=some o∧o.data=.cell (some v)∧pv.Is v:=by
 obtain ⟨_,_,_,b,_,k,_⟩:=ok.opc h
 obtain ⟨o,v,h1,h2⟩:=k x pv c hl hc
 exact ⟨o,v,b.get (apL h1),h2⟩
theorem Fm.Ok.handled (ok:F.Ok):F.A.handled=none:=by rw [ok.hA]
theorem Fm.Ok.led (ok:F.Ok) (h:F.R pm nx s) (hs:∀ p∈nx',p∈nx):F.R pm nx' s:=by
 obtain ⟨_,os,a,b,c,_,k⟩:=ok.opc h
 exact k s.heap s.toks nx' a (News.of b fun p hp=>(apX hp).elim (apL) fun h=>apR (hs p h)) fun p hp q hq=>c p hp q (hs q hq)
theorem Fm.Ok.sub (ok:F.Ok) (h:F.R pm nx s) (h1:Sub pm' pm) (hs:∀ p∈nx',p∈nx):F.R pm' nx' s:=ok.led (ok.pms h h1) hs
theorem Fm.Ok.toks (ok:F.Ok) (k:Nat) (h:F.R pm nx s):F.R pm nx { s with toks:=k }:=by
 obtain ⟨_,os,a,b,c,_,kk⟩:=ok.opc h
 exact kk s.heap k nx a b c
theorem Fm.Ok.mem (ok:F.Ok) {a:Addr} {o:Obj} (h:F.R pm nx s) (hm:(a,o)∈nx):s.heap.get? a=some o:=by
 obtain ⟨_,os,_,b,_⟩:=ok.opc h
 exact b.get (apR hm)
theorem Fm.Ok.alloc (ok:F.Ok) {o:Obj} (ho:o.isFreed=false) (h:F.R pm nx s):F.R pm ((s.heap.objs.size,o)::nx) { s with heap:=s.heap.push o }∧∀ p∈nx,p.1 < s.heap.objs.size:=by
 obtain ⟨m,os,a,b,c,_,kk⟩:=ok.opc h
 have N':=News.push a b o ho
 have lt:∀ p∈os++nx,p.1 < s.heap.objs.size:=fun p h=>Heap.lt_size (b p h).1
 refine ⟨kk _ s.toks _ (a.push _) (News.of N' fun p h=>?_) fun p h q hq=>?_,fun p h=>lt p (apR h)⟩
 ·rcases apX h with h | h
  ·exact .tail _ (apL h)
  ·rcases cnX h with rfl | h
   ·exact .head _
   ·exact .tail _ (apR h)
 ·rcases cnX hq with rfl | hq
  ·exact Nat.ne_of_lt (lt p (apL h))
  ·exact c p h q hq
theorem Fm.Ok.func (ok:F.Ok) {a:Addr} (ha:F.fn a=true):∃ o fd,o.data=.func fd∧∀ {pm nx s},F.R pm nx s→s.heap.get? a=some o:=by
 obtain ⟨D,hC⟩:=ok.gr
 have ha:fnB a=true:=ha
 unfold fnB at ha
 rw [List.any_eq_true] at ha
 obtain ⟨b,hb,e⟩:=ha
 have:=Nat.eq_of_beq_eq_true e
 subst this
 have h1:=List.all_eq_true.mp (Gq F.w.params) _ hb
 unfold isFun at h1
 split at h1
 ·rename_i oc od fd sl e1
  refine ⟨⟨oc,od,.func fd,sl⟩,fd,rfl,fun hR=>?_⟩
  obtain ⟨m,os,a,_⟩:=ok.opc hR
  exact a.keep _ _ (hC.X _ _ e1)
 ·exact bA h1
theorem Fm.Ok.inter (ok:F.Ok):interactive F.env=false:=by
 unfold interactive
 simp [ok.kind]
theorem Fm.Ok.read (ok:F.Ok) {x:Str} {pv:PV} {pos:Pos} {P:Value→Shared→Prop} (h:F.R pm nx s) (hl:look pm x=some pv) (hP:∀ v,pv.Is v→P v s):wpAny F.M F.A (eval (.Name x pos) F.env) P NoE s :=
 let ⟨hd,k⟩:=ok.load h hl
 wpAny_Name (k hP) hd
theorem Fm.Ok.globR (ok:F.Ok) {x:Str} {v:Value} {pos:Pos} {P:Value→Shared→Prop} (hR:F.R pm nx s) (hg:F.glob x=some v) (hP:P v s):wpAny F.M F.A (eval (.Name x pos) F.env) P NoE s:=by
 obtain ⟨D,hC⟩:=ok.gr
 obtain ⟨m,os,Fr',_⟩:=ok.opc hR
 have hg:Aw F.env.scope x=some v:=hg
 have T:=topRead_of hC.T
 unfold Aw at hg
 split at hg
 ·rename_i hkd
  split at hg
  ·rename_i u hu
   cases hg
   have:=List.all_eq_true.mp (Au F.w.params) _ (vU hu)
   simp only [Bool.and_eq_true,Bool.not_eq_true'] at this
   refine Name_function_global ok.kind (bB hkd) (loadGlobal_global (ok.glb▸T.g.keeps Fr'.keep) (mg_of hC.X T.g ?_) hP) this.2
   have h1:=this.1
   unfold Ar at h1
   split at h1
   ·rename_i e;rw [e,of_decide_eq_true h1]
   ·exact bA h1
  ·have:=List.all_eq_true.mp (Av F.w.params) _ (vU hg)
   simp only [Bool.and_eq_true,Bool.not_eq_true'] at this
   obtain ⟨⟨⟨h1,h2⟩,h3⟩,h4⟩:=this
   refine Name_function_global ok.kind (bB hkd) (loadGlobal_builtin (ok.glb▸T.g.keeps Fr'.keep) (mg_none_of hC.X T.g ?_) (ok.blt▸T.b.keeps Fr'.keep) ((T.builtins x (fun e=>?_)).trans ?_) hP) h3
   ·unfold As at h1
    split at h1
    ·assumption
    ·exact bA h1
   ·exact absurd (beq_of_eq e) (by rw [h4];exact Bool.false_ne_true)
   ·unfold Fx at h2
    split at h2
    ·rename_i e;rw [e,of_decide_eq_true h2]
    ·exact bA h2
 ·exact aV hg
theorem Fm.Ok.turn (ok:F.Ok) {l:Addr} {o:Obj} {G:Prop} (hR:F.R pm nx s) (hm:(l,o)∈nx)
  (k:∀ m rest,Fr F.C.h₀ F.C.L s.heap m→News F.C.h₀ F.C.L s.heap ((l,o)::rest)→(∀ p∈rest,p.1≠l) →
   (∀ h' tk' o' nx',Fr F.C.h₀ F.C.L h' m→News F.C.h₀ F.C.L h' ((l,o')::rest)→(∀ p∈nx',p=(l,o')∨p∈nx∧p.1≠l)→F.R pm nx' { s with heap:=h',toks:=tk' })→G):G:=by
 obtain ⟨m,os,Fr',N,ap,_,mk⟩:=ok.opc hR
 have hr:∀ p∈(os++nx).filter (fun p => !(p.1==l)),p∈os++nx∧p.1≠l:=fun p hp=>by simpa using List.mem_filter.mp hp
 refine k m ((os++nx).filter fun p => !(p.1==l)) Fr' (News.of N fun p hp=>?_) (fun p hp=>(hr p hp).2) fun h' tk' o' nx' F' N' hnx=>?_
 ·rcases cnX hp with rfl | hp
  ·exact apR hm
  ·exact (hr p hp).1
 ·have hr':∀ p,p∈os++nx→p.1≠l→p∈(os++nx).filter fun p => !(p.1==l):=fun p h1 h2=>List.mem_filter.mpr ⟨h1,by simpa using h2⟩
  refine mk h' tk' nx' F' (News.of N' fun p hp=>?_) fun p hp q hq=>?_
  ·rcases apX hp with hp | hp
   ·exact .tail _ (hr' p (apL hp) (ap p hp _ hm))
   ·rcases hnx p hp with rfl | ⟨h1,h2⟩
    ·exact .head _
    ·exact .tail _ (hr' p (apR h1) h2)
  ·rcases hnx q hq with rfl | ⟨h1,h2⟩
   ·exact ap p hp (l,o) hm
   ·exact ap p hp q h1
end
def Chg (l:Addr) (o':Obj) (nx nx':Led):Prop:=∀ p∈nx',p=(l,o')∨p∈nx∧p.1≠l
section
variable {l:Addr} {o':Obj} {nx nx':Led}
theorem Chg.nil:Chg l o' nx []:=fun _ h=>nomatch h
theorem Chg.new (h:Chg l o' nx nx'):Chg l o' nx ((l,o')::nx'):=fun p hp=>by
 rcases cnX hp with rfl | hp
 ·exact .inl rfl
 ·exact h p hp
theorem Chg.old {q:Addr×Obj} (h1:q∈nx) (h2:q.1≠l) (h:Chg l o' nx nx'):Chg l o' nx (q::nx'):=fun p hp=>by
 rcases cnX hp with rfl | hp
 ·exact .inr ⟨h1,h2⟩
 ·exact h p hp
theorem Chg.rest (h:∀ p∈nx',p∈nx∧p.1≠l):Chg l o' nx nx':=fun p hp=>.inr (h p hp)
theorem Chg.app {a b:Led} (h1:Chg l o' nx a) (h2:Chg l o' nx b):Chg l o' nx (a++b):=fun p hp=>(apX hp).elim (h1 p) (h2 p)
end
inductive Holds (cl:List (Str×Addr)) (sc:Scope) (m cm:Str→Option Value) (x:Str) (pv:PV):Prop
 | loc (v:Value):(x==("__debug__":Str))=false→pv.Is v→sc.names.lookup x=some .local→m x=some v→Holds cl sc m cm x pv
 | cel (v:Value) (c:Addr):(x==("__debug__":Str))=false→pv.Is v→(sc.names.lookup x=some .cell∨sc.names.lookup x=some .free∧(x==("__classdict__":Str))=false)→cl.lookup x=some c→cm x=some v→Holds cl sc m cm x pv
def Apart (os nx:Led):Prop:=∀ p∈os,∀ q∈nx,p.1≠q.1
def Cx.Ft (C:Cx) (sc:Scope) (pm:PM) (m cm:Str→Option Value):Prop:=∀ x pv,look pm x=some pv→Holds C.cl sc m cm x pv
inductive Cx.R (C:Cx) (sc:Scope) (pm:PM) (nx:Led) (s:Shared):Prop
 | mk (m cm:Str→Option Value) (os:Led):Fr C.h₀ C.L s.heap m→News C.h₀ C.L s.heap (os++nx)→CellsAre cm C.cl os→Apart os nx→C.Ft sc pm m cm→(∃ h k,s={ C.s with heap:=h,toks:=k })→Cx.R C sc pm nx s
noncomputable def Cx.fm (C:Cx) (w:World) (sc:Scope):Fm where
 w:=w
 A:=ktrTop C.dp C.un C.gd C.cn sc C.L C.a C.ccd C.cl C.outer
 env:=envX C.cn sc C.L C.a C.ccd C.cl
 R:=C.R sc
 sto:=q6 sc
 cell:=fun x=>match lkK sc.names x with | some .cell=>C.cl.lookup x | some .free=>(match x==("__classdict__":Str) with | true=>none | false=>C.cl.lookup x) | _=>none
 C:=C
 sc:=sc
end Mine
end
section
namespace Mine
def Go {α β:Type} (F:Fm) (r:β→α→Prop) (t:Sem α) (pm:PM) (nx:Led) (Q:β→PM→Led→Prop):Prop :=
 ∀ s (P:α→Shared→Prop),F.R pm nx s→(∀ b a pm' nx' s',Q b pm' nx'→r b a→F.R pm' nx' s'→P a s')→wpAny F.M F.A t P NoE s
noncomputable abbrev KV:=PV→PM→Led→Prop
noncomputable abbrev KB:=Bool→PM→Led→Prop
noncomputable abbrev KL:=List PV→PM→Led→Prop
noncomputable abbrev KU:=PM→Led→Prop
inductive FV
 | next | brk | cont | ret (v:PV)
noncomputable abbrev KF:=FV→PM→Led→Prop
def FV.Is:FV→Flow→Prop
 | .next,f=>f=.next
 | .brk,f=>f=.brk
 | .cont,f=>f=.cont
 | .ret v,f=>∃ x,f=.ret x∧v.Is x
inductive AllIs:List PV→List Value→Prop
 | nil:AllIs [] []
 | cons {p v ps vs}:p.Is v→AllIs ps vs→AllIs (p::ps) (v::vs)
abbrev GoV (F:Fm) (t:Sem Value) (pm:PM) (nx:Led) (Q:KV):Prop:=Go F PV.Is t pm nx Q
abbrev GoB (F:Fm) (t:Sem Bool) (pm:PM) (nx:Led) (Q:KB):Prop:=Go F (@Eq Bool) t pm nx Q
abbrev GoF (F:Fm) (t:Sem Flow) (pm:PM) (nx:Led) (Q:KF):Prop:=Go F FV.Is t pm nx Q
abbrev GoU (F:Fm) (t:Sem Unit) (pm:PM) (nx:Led) (Q:KU):Prop:=Go F (@Eq Unit) t pm nx fun _=>Q
abbrev GoL (F:Fm) (t:Sem (List Value)) (pm:PM) (nx:Led) (Q:KL):Prop:=Go F AllIs t pm nx Q
theorem Go.mono {α β:Type} {F:Fm} {r:β→α→Prop} {t:Sem α} {pm:PM} {nx:Led} {Q Q':β→PM→Led→Prop} (h:Go F r t pm nx Q) (hq:∀ b pm nx,Q b pm nx→Q' b pm nx):Go F r t pm nx Q' :=
 fun s P hR hP=>h s P hR fun b a pm' nx' s' q=>hP b a pm' nx' s' (hq _ _ _ q)
section
variable {F:Fm} {pm:PM} {nx:Led}
noncomputable def asI:PV→Option Int
 | .i n=>some n
 | .v (.int n _)=>some n
 | _=>none
noncomputable def asF:PV→Option UInt64
 | .f n=>some n
 | .v (.float n _)=>some n
 | _=>none
noncomputable def asS:PV→Option Str
 | .s n=>some n
 | .v (.str n _)=>some n
 | _=>none
theorem au {p:PV} {n:Int} {y:Value} (e:asI p=some n) (h:p.Is y):∃ t,y=.int n t:=by
 cases p with
 | v x=>cases x <;> first | exact aV e | (cases e;exact ⟨_,h⟩)
 | i k=>cases e;exact h
 | f k=>exact aV e
 | s k=>exact aV e
theorem a6 {p:PV} {n:UInt64} {y:Value} (e:asF p=some n) (h:p.Is y):∃ t,y=.float n t:=by
 cases p with
 | v x=>cases x <;> first | exact aV e | (cases e;exact ⟨_,h⟩)
 | f k=>cases e;exact h
 | i k=>exact aV e
 | s k=>exact aV e
theorem aJ {p:PV} {n:Str} {y:Value} (e:asS p=some n) (h:p.Is y):∃ t,y=.str n t:=by
 cases p with
 | v x=>cases x <;> first | exact aV e | (cases e;exact ⟨_,h⟩)
 | s k=>cases e;exact h
 | i k=>exact aV e
 | f k=>exact aV e
def okF (n:Int):Prop:=n.natAbs < 2 ^ 1024 - 2 ^ 970
def okD (n:Int):Prop:=n.natAbs < 2 ^ 1023
theorem cb {n:Int} (h:n.natAbs < 1000000):okF n:=Nat.lt_trans h (by decide +kernel)
theorem ff {n:Int} (h:n.natAbs < 1000000):okD n:=Nat.lt_trans h (by decide +kernel)
def fg (F:Fm) (op:Operator) (a b:PV) (pm:PM) (nx:Led) (Q:KV):Prop:=∀ x y,a.Is x→b.Is y→GoV F (binaryOp op x y) pm nx Q
def binI (F:Fm) (a b:Int) (pa pb:PV) (pm:PM) (nx:Led) (Q:KV):Operator→Prop
 | .Add=>Q (.i (a + b)) pm nx
 | .Sub=>Q (.i (a - b)) pm nx
 | .Mult=>IntMulOk a b∧Q (.i (a * b)) pm nx
 | .FloorDiv=>(b≠0∧b.natAbs < 1073741824)∧Q (.i (a.fdiv b)) pm nx
 | .Mod=>b≠0∧Q (.i (a.fmod b)) pm nx
 | .BitAnd=>Q (.i (Builtin.bitAnd a b)) pm nx
 | .BitOr=>Q (.i (Builtin.bitOr a b)) pm nx
 | .RShift=>0≤b∧Q (.i (a.fdiv (2 ^ b.toNat))) pm nx
 | .LShift=>(0≤b∧b≤1000000∧a.natAbs < 2 ^ 64)∧Q (.i (a * 2 ^ b.toNat)) pm nx
 | .Div=>(okD a∧b≠0)∧Q (.f (Float64.ofFrac (decide (a < 0) !=decide (b < 0)) a.natAbs b.natAbs)) pm nx
 | op=>fg F op pa pb pm nx Q
def IE (F:Fm) (a b:UInt64) (pa pb:PV) (pm:PM) (nx:Led) (Q:KV):Operator→Prop
 | .Add=>Q (.f (Float64.add a b)) pm nx
 | .Sub=>Q (.f (Float64.sub a b)) pm nx
 | .Mult=>Q (.f (Float64.mul a b)) pm nx
 | .Div=>¬ Float64.isZero b=true∧Q (.f (Float64.div a b)) pm nx
 | .Mod=>¬ Float64.isZero b=true∧Q (.f (Float64.divmod a b).2) pm nx
 | op=>fg F op pa pb pm nx Q
def Fy (F:Fm) (a:Int) (b:UInt64) (pa pb:PV) (pm:PM) (nx:Led) (Q:KV):Operator→Prop
 | .Add=>okF a∧Q (.f (Float64.add (Float64.ofInt a) b)) pm nx
 | .Sub=>okF a∧Q (.f (Float64.sub (Float64.ofInt a) b)) pm nx
 | .Mult=>okF a∧Q (.f (Float64.mul (Float64.ofInt a) b)) pm nx
 | op=>fg F op pa pb pm nx Q
def Fz (F:Fm) (a:UInt64) (b:Int) (pa pb:PV) (pm:PM) (nx:Led) (Q:KV):Operator→Prop
 | .Add=>okF b∧Q (.f (Float64.add a (Float64.ofInt b))) pm nx
 | .Sub=>okF b∧Q (.f (Float64.sub a (Float64.ofInt b))) pm nx
 | .Mult=>okF b∧Q (.f (Float64.mul a (Float64.ofInt b))) pm nx
 | op=>fg F op pa pb pm nx Q
def IF (F:Fm) (a b:Str) (pa pb:PV) (pm:PM) (nx:Led) (Q:KV):Operator→Prop
 | .Add=>a.length + b.length≤sizeLine∧Q (.s (a++b)) pm nx
 | op=>fg F op pa pb pm nx Q
def Gr (F:Fm) (op:Operator) (a b:PV) (pm:PM) (nx:Led) (Q:KV):Prop :=
 match asI a with
 | some m => (match asI b with
  | some n=>binI F m n a b pm nx Q op
  | none => (match asF b with
   | some n=>Fy F m n a b pm nx Q op
   | none=>fg F op a b pm nx Q))
 | none => (match asF a with
  | some m => (match asF b with
   | some n=>IE F m n a b pm nx Q op
   | none => (match asI b with
    | some n=>Fz F m n a b pm nx Q op
    | none=>fg F op a b pm nx Q))
  | none => (match asS a with
   | some m => (match asS b with
    | some n=>IF F m n a b pm nx Q op
    | none=>fg F op a b pm nx Q)
   | none=>fg F op a b pm nx Q))
theorem C8 (ok:F.Ok) {op:Operator} {a b:Int} {pa pb:PV} {Q:KV} (ha:asI pa=some a) (hb:asI pb=some b) (h:binI F a b pa pb pm nx Q op):fg F op pa pb pm nx Q:=by
 cases op <;> first | exact h | skip
 all_goals
  intro x y hx hy
  obtain ⟨t,rfl⟩:=au ha hx
  obtain ⟨u,rfl⟩:=au hb hy
  intro s P hR hP
 case Add=>exact _root_.PySem.P.add_int (hP _ _ _ _ _ h ⟨_,rfl⟩ (ok.toks _ hR))
 case Sub=>exact _root_.PySem.P.sub_int (hP _ _ _ _ _ h ⟨_,rfl⟩ (ok.toks _ hR))
 case Mult=>exact _root_.PySem.P.mul_int (hP _ _ _ _ _ h.2 ⟨_,rfl⟩ (ok.toks _ hR)) h.1
 case FloorDiv=>exact floordiv_int h.1.1 (hP _ _ _ _ _ h.2 ⟨_,rfl⟩ (ok.toks _ hR)) (.inl (PyProof.noPylong_small h.1.2))
 case Mod=>exact mod_int' h.1 (hP _ _ _ _ _ h.2 ⟨_,rfl⟩ (ok.toks _ hR))
 case BitAnd=>exact and_int (hP _ _ _ _ _ h ⟨_,rfl⟩ (ok.toks _ hR))
 case BitOr=>exact or_int (hP _ _ _ _ _ h ⟨_,rfl⟩ (ok.toks _ hR))
 case RShift=>exact rshift_int h.1 (hP _ _ _ _ _ h.2 ⟨_,rfl⟩ (ok.toks _ hR))
 case LShift=>exact lshift_int_small h.1.1 h.1.2.1 h.1.2.2 (hP _ _ _ _ _ h.2 ⟨_,rfl⟩ (ok.toks _ hR))
 case Div=>exact PySem.Flt.div_ii_fits ok.handled h.1.1 (fun e=>absurd e h.1.2) fun _ _=>hP _ _ _ _ _ h.2 ⟨_,rfl⟩ (ok.toks _ hR)
theorem C9 (ok:F.Ok) {op:Operator} {a b:UInt64} {pa pb:PV} {Q:KV} (ha:asF pa=some a) (hb:asF pb=some b) (h:IE F a b pa pb pm nx Q op):fg F op pa pb pm nx Q:=by
 cases op <;> first | exact h | skip
 all_goals
  intro x y hx hy
  obtain ⟨t,rfl⟩:=a6 ha hx
  obtain ⟨u,rfl⟩:=a6 hb hy
  intro s P hR hP
 case Add=>exact add_float (hP _ _ _ _ _ h ⟨_,rfl⟩ (ok.toks _ hR))
 case Sub=>exact sub_float (hP _ _ _ _ _ h ⟨_,rfl⟩ (ok.toks _ hR))
 case Mult=>exact mul_float (hP _ _ _ _ _ h ⟨_,rfl⟩ (ok.toks _ hR))
 case Div=>exact truediv_float_or ok.handled (fun e=>absurd e h.1) fun _=>hP _ _ _ _ _ h.2 ⟨_,rfl⟩ (ok.toks _ hR)
 case Mod=>exact PySem.Flt.mod_ff ok.handled (fun e=>absurd e h.1) fun _=>hP _ _ _ _ _ h.2 ⟨_,rfl⟩ (ok.toks _ hR)
theorem Ax (ok:F.Ok) {op:Operator} {a:Int} {b:UInt64} {pa pb:PV} {Q:KV} (ha:asI pa=some a) (hb:asF pb=some b) (h:Fy F a b pa pb pm nx Q op):fg F op pa pb pm nx Q:=by
 cases op <;> first | exact h | skip
 all_goals
  intro x y hx hy
  obtain ⟨t,rfl⟩:=au ha hx
  obtain ⟨u,rfl⟩:=a6 hb hy
  intro s P hR hP
 case Add=>exact add_if_sharp ok.handled (fun e=>absurd e (Nat.not_le_of_lt h.1)) fun _=>hP _ _ _ _ _ h.2 ⟨_,rfl⟩ (ok.toks _ hR)
 case Sub=>exact sub_if_sharp ok.handled (fun e=>absurd e (Nat.not_le_of_lt h.1)) fun _=>hP _ _ _ _ _ h.2 ⟨_,rfl⟩ (ok.toks _ hR)
 case Mult=>exact mul_if_sharp ok.handled (fun e=>absurd e (Nat.not_le_of_lt h.1)) fun _=>hP _ _ _ _ _ h.2 ⟨_,rfl⟩ (ok.toks _ hR)
theorem Ay (ok:F.Ok) {op:Operator} {a:UInt64} {b:Int} {pa pb:PV} {Q:KV} (ha:asF pa=some a) (hb:asI pb=some b) (h:Fz F a b pa pb pm nx Q op):fg F op pa pb pm nx Q:=by
 cases op <;> first | exact h | skip
 all_goals
  intro x y hx hy
  obtain ⟨t,rfl⟩:=a6 ha hx
  obtain ⟨u,rfl⟩:=au hb hy
  intro s P hR hP
 case Add=>exact add_fi_sharp ok.handled (fun e=>absurd e (Nat.not_le_of_lt h.1)) fun _=>hP _ _ _ _ _ h.2 ⟨_,rfl⟩ (ok.toks _ hR)
 case Sub=>exact sub_fi_sharp ok.handled (fun e=>absurd e (Nat.not_le_of_lt h.1)) fun _=>hP _ _ _ _ _ h.2 ⟨_,rfl⟩ (ok.toks _ hR)
 case Mult=>exact mul_fi_sharp ok.handled (fun e=>absurd e (Nat.not_le_of_lt h.1)) fun _=>hP _ _ _ _ _ h.2 ⟨_,rfl⟩ (ok.toks _ hR)
theorem De (ok:F.Ok) {op:Operator} {a b:Str} {pa pb:PV} {Q:KV} (ha:asS pa=some a) (hb:asS pb=some b) (h:IF F a b pa pb pm nx Q op):fg F op pa pb pm nx Q:=by
 cases op <;> first | exact h | skip
 intro x y hx hy
 obtain ⟨t,rfl⟩:=aJ ha hx
 obtain ⟨u,rfl⟩:=aJ hb hy
 intro s P hR hP
 exact SBL.add (fun t' k _=>hP _ _ _ _ _ h.2 ⟨_,rfl⟩ (ok.toks _ hR)) h.1
theorem Df (ok:F.Ok) {op:Operator} {a b:PV} {Q:KV} (h:Gr F op a b pm nx Q):fg F op a b pm nx Q:=by
 unfold Gr at h
 split at h <;> split at h <;> first | exact C8 ok ‹_› ‹_› h | skip
 ·split at h
  ·exact Ax ok ‹_› ‹_› h
  ·exact h
 ·split at h
  ·exact C9 ok ‹_› ‹_› h
  ·split at h
   ·exact Ay ok ‹_› ‹_› h
   ·exact h
 ·split at h
  ·split at h
   ·exact De ok ‹_› ‹_› h
   ·exact h
  ·exact h
def dE (F:Fm) (op:CmpOp) (a b:PV) (pm:PM) (nx:Led) (Q:KV):Prop:=∀ x y,a.Is x→b.Is y→GoV F (compareOp op x y) pm nx Q
def IG (F:Fm) (a b:Int) (pa pb:PV) (pm:PM) (nx:Led) (Q:KV):CmpOp→Prop
 | .Lt=>Q (.v (.bool (decide (a < b)))) pm nx
 | .LtE=>Q (.v (.bool (decide (a≤b)))) pm nx
 | .Gt=>Q (.v (.bool (decide (a > b)))) pm nx
 | .GtE=>Q (.v (.bool (decide (a ≥ b)))) pm nx
 | .Eq=>Q (.v (.bool (a==b))) pm nx
 | .NotEq=>Q (.v (.bool (a !=b))) pm nx
 | op=>dE F op pa pb pm nx Q
def IH (F:Fm) (a b:UInt64) (pa pb:PV) (pm:PM) (nx:Led) (Q:KV):CmpOp→Prop
 | .Lt=>Q (.v (.bool (Float64.cmp a b==some Ordering.lt))) pm nx
 | .LtE=>Q (.v (.bool (Float64.cmp a b==some Ordering.lt || Float64.cmp a b==some Ordering.eq))) pm nx
 | .Eq=>Q (.v (.bool (Float64.cmp a b==some Ordering.eq))) pm nx
 | op=>dE F op pa pb pm nx Q
def IJ (F:Fm) (a b:Str) (pa pb:PV) (pm:PM) (nx:Led) (Q:KV):CmpOp→Prop
 | .Eq=>Q (.v (.bool (a==b))) pm nx
 | .NotEq=>Q (.v (.bool (a !=b))) pm nx
 | op=>dE F op pa pb pm nx Q
noncomputable def isN:PV→Bool
 | .v x=>x==.none
 | _=>false
theorem Gs {p:PV} {y:Value} (h:p.Is y):(y==.none)=isN p:=by
 cases p with
 | v x=>obtain rfl:=h;rfl
 | i k=>obtain ⟨t,rfl⟩:=h;rfl
 | f k=>obtain ⟨t,rfl⟩:=h;rfl
 | s k=>obtain ⟨t,rfl⟩:=h;rfl
def IK (F:Fm) (pa pb:PV) (pm:PM) (nx:Led) (Q:KV):CmpOp→Prop
 | .Is=>Q (.v (.bool (isN pa))) pm nx
 | .IsNot=>Q (.v (.bool (!isN pa))) pm nx
 | op=>dE F op pa pb pm nx Q
def Gu (F:Fm) (op:CmpOp) (a b:PV) (pm:PM) (nx:Led) (Q:KV):Prop :=
 match asI b with
 | some n => (match asI a with
  | some m=>IG F m n a b pm nx Q op
  | none=>dE F op a b pm nx Q)
 | none => (match asF b with
  | some n => (match asF a with
   | some m=>IH F m n a b pm nx Q op
   | none=>dE F op a b pm nx Q)
  | none => (match asS b with
   | some n => (match asS a with
    | some m=>IJ F m n a b pm nx Q op
    | none=>dE F op a b pm nx Q)
   | none => (match b with
    | .v .none=>IK F a b pm nx Q op
    | _=>dE F op a b pm nx Q)))
theorem Dg {op:CmpOp} {a b:Int} {pa pb:PV} {Q:KV} (ha:asI pa=some a) (hb:asI pb=some b) (h:IG F a b pa pb pm nx Q op):dE F op pa pb pm nx Q:=by
 cases op <;> first | exact h | skip
 all_goals
  intro x y hx hy
  obtain ⟨t,rfl⟩:=au ha hx
  obtain ⟨u,rfl⟩:=au hb hy
  intro s P hR hP
  have z:=hP _ _ _ _ _ h rfl hR
 case Lt=>exact _root_.PySem.P.lt_int z
 case LtE=>exact _root_.PySem.P.le_int z
 case Gt=>exact _root_.PySem.P.gt_int z
 case GtE=>exact _root_.PySem.P.ge_int z
 case Eq=>exact _root_.PySem.P.eq_int z
 case NotEq=>exact _root_.PySem.P.ne_int z
theorem Dh {op:CmpOp} {a b:UInt64} {pa pb:PV} {Q:KV} (ha:asF pa=some a) (hb:asF pb=some b) (h:IH F a b pa pb pm nx Q op):dE F op pa pb pm nx Q:=by
 cases op <;> first | exact h | skip
 all_goals
  intro x y hx hy
  obtain ⟨t,rfl⟩:=a6 ha hx
  obtain ⟨u,rfl⟩:=a6 hb hy
  intro s P hR hP
  have z:=hP _ _ _ _ _ h rfl hR
 case Lt=>exact AutoFloatOps.lt_0 z
 case LtE=>exact AutoFloatOps.le_0 z
 case Eq=>exact AutoFloatOps.eq_0 z
theorem Di {op:CmpOp} {a b:Str} {pa pb:PV} {Q:KV} (ha:asS pa=some a) (hb:asS pb=some b) (h:IJ F a b pa pb pm nx Q op):dE F op pa pb pm nx Q:=by
 cases op <;> first | exact h | skip
 all_goals
  intro x y hx hy
  obtain ⟨t,rfl⟩:=aJ ha hx
  obtain ⟨u,rfl⟩:=aJ hb hy
  intro s P hR hP
  have z:=hP _ _ _ _ _ h rfl hR
 case Eq=>exact PyProof.Rows.eq_str z
 case NotEq=>exact PyProof.Rows.ne_str z
theorem Dj {op:CmpOp} {pa:PV} {Q:KV} (h:IK F pa (.v .none) pm nx Q op):dE F op pa (.v .none) pm nx Q:=by
 cases op <;> first | exact h | skip
 all_goals
  intro x y hx hy
  obtain rfl:=hy
  intro s P hR hP
  have z:=hP _ _ _ _ _ h rfl hR
  rw [← Gs hx] at z
  first | exact is_none z | exact isNot_none z
theorem vV {op:CmpOp} {a b:PV} {Q:KV} (h:Gu F op a b pm nx Q):dE F op a b pm nx Q:=by
 unfold Gu at h
 split at h
 ·split at h
  ·exact Dg ‹_› ‹_› h
  ·exact h
 ·split at h
  ·split at h
   ·exact Dh ‹_› ‹_› h
   ·exact h
  ·split at h
   ·split at h
    ·exact Di ‹_› ‹_› h
    ·exact h
   ·split at h
    ·exact Dj h
    ·exact h
end
end Mine
end
section
namespace Mine
noncomputable abbrev EvT:=Expr→PM→Led→KV→Prop
noncomputable abbrev TeT:=Expr→PM→Led→KB→Prop
noncomputable def notStar:Expr→Bool
 | .Starred _ _=>false
 | _=>true
theorem aW {e:Expr} (h:notStar e=true) (rest:List Expr) (env:Env):starEach (e::rest) env=(false,eval e env)::starEach rest env:=by
 cases e <;> first | rfl | exact bA h
noncomputable def a8:List Expr→Bool
 | []=>true
 | e::es=>notStar e && a8 es
abbrev IL (v:PV) (Q:KL):KL:=fun vs=>Q (v::vs)
abbrev J5 (A:PM→Led→KL→Prop) (Q:KL):KV:=fun v pm nx=>A pm nx (IL v Q)
def bN (r:EvT):List Expr→PM→Led→KL→Prop
 | [],pm,nx,Q=>Q [] pm nx
 | e :: es, pm, nx, Q => (match notStar e with
  | true=>r e pm nx (J5 (bN r es) Q)
  | false=>False)
def aI (F:Fm) (f:Value) (vs:List PV) (pm:PM) (nx:Led) (Q:KV):Prop:=∀ xs,AllIs vs xs→GoV F (call f xs) pm nx Q
def ow (F:Fm) (value slice:Expr) (o i:PV) (pm:PM) (nx:Led) (Q:KV):Prop:=∀ x y,o.Is x→i.Is y→GoV F (subscriptTail value slice x y) pm nx Q
def Dk (F:Fm) (vs:List PV) (pm:PM) (nx:Led) (Q:KV):Prop:=∀ xs,AllIs vs xs→GoV F (newTuple xs) pm nx Q
def IM (F:Fm) (vs:List PV) (pm:PM) (nx:Led) (Q:KV):Prop:=∀ xs,AllIs vs xs→GoV F (newList xs) pm nx Q
abbrev Az (F:Fm) (f:Value) (Q:KV):KL:=fun vs pm nx=>aI F f vs pm nx Q
def lE {α:Type} (o:Option α) (f:α→Prop) (d:Prop):Prop :=
 match o with
 | some v=>f v
 | none=>d
theorem bR {α:Type} {o:Option α} {f:α→Prop} {d X:Prop} (h:lE o f d) (a:∀ v,o=some v→f v→X) (b:d→X):X:=by
 cases o with
 | none=>exact b h
 | some v=>exact a v rfl h
noncomputable def Dl:PV→Option Value
 | .v (.builtin id)=>some (.builtin id)
 | .v (.type T)=>some (.type T)
 | _=>none
theorem Dn {f:PV} {g:Value} (h:Dl f=some g):f=.v g∧((∃ id,g=.builtin id)∨∃ T,g=.type T):=by
 cases f with
 | v x=>cases x <;> first | exact aV h | (cases h;exact ⟨rfl,.inl ⟨_,rfl⟩⟩) | (cases h;exact ⟨rfl,.inr ⟨_,rfl⟩⟩)
 | i n=>exact aV h
 | f n=>exact aV h
 | s n=>exact aV h
noncomputable def Gv (args:List Expr) (f:PV):Option Value :=
 match args with
 | []=>none
 | _ :: _ => (match a8 args with
  | true=>Dl f
  | false=>none)
def IP (F:Fm) (r:EvT) (pos:Pos) (args:List Expr) (f:PV) (pm:PM) (nx:Led) (Q:KV):Prop :=
 lE (Gv args f) (fun g=>bN r args pm nx (Az F g Q)) (∀ y,f.Is y→GoV F (callWith pos y [] (backTo pos (starEach args F.env)) []) pm nx Q)
def AA (F:Fm) (v:PV) (pm:PM) (nx:Led) (Q:KB):Prop :=
 match v with
 | .v (.bool b)=>Q b pm nx
 | .v .none=>Q false pm nx
 | .i n=>Q (n !=0) pm nx
 | v=>∀ y,v.Is y→GoB F (truthy y) pm nx Q
def ifE (b:Bool) (X Y:Prop):Prop:=(b=true→X)∧(b=false→Y)
noncomputable def bO:Expr→Bool
 | .Slice ..=>false
 | _=>true
def tQ (b:Bool) (X Y:Prop):Prop :=
 match b with
 | true=>X
 | false=>Y
theorem hW {b:Bool} {X Y Z:Prop} (h:tQ b X Y) (f:b=true→X→Z) (g:Y→Z):Z:=by
 cases b
 ·exact g h
 ·exact f rfl h
noncomputable def AB:Const→Option PV
 | .int n=>some (.i n)
 | .float n=>some (.f n)
 | .str z=>some (.s z)
 | .bool b=>some (.v (.bool b))
 | .none=>some (.v .none)
 | _=>none
noncomputable def nameOf:Expr→Option Str
 | .Name x _=>some x
 | _=>none
theorem lF {e:Expr} {x:Str} (h:nameOf e=some x):∃ p,e=.Name x p:=by
 cases e with
 | Name y p=>cases h;exact ⟨p,rfl⟩
 | _=>exact aV h
noncomputable def FA:List Expr→Option Str
 | [e]=>nameOf e
 | _=>none
theorem AD {es:List Expr} {x:Str} (h:FA es=some x):∃ p,es=[.Name x p]:=by
 cases es with
 | nil=>exact aV h
 | cons e es =>
  cases es with
  | cons _ _=>exact aV h
  | nil=>exact (lF h).elim fun p hp=>⟨p,hp▸rfl⟩
noncomputable def IQ (f:Expr):List Keyword→Option Str
 | []=>nameOf f
 | _=>none
noncomputable def IS {α:Type} (x:α):Bool→Option α
 | false=>some x
 | true=>none
theorem Dp {α:Type} {b:Bool} {x y:α} (h:IS x b=some y):x=y∧b=false:=by
 cases b
 ·cases h;exact ⟨rfl,rfl⟩
 ·exact aV h
noncomputable def Gw:List CmpOp→List Expr→Option (CmpOp×Expr)
 | [op],[b]=>IS (op,b) (behindInMarks op b)
 | _,_=>none
theorem vW {ops:List CmpOp} {bs:List Expr} {p:CmpOp×Expr} (h:Gw ops bs=some p):ops=[p.1]∧bs=[p.2]∧behindInMarks p.1 p.2=false:=by
 cases ops with
 | nil=>exact aV h
 | cons op ops =>
  cases bs with
  | nil=>cases ops <;> exact aV h
  | cons b bs =>
   cases ops with
   | cons _ _=>exact aV h
   | nil =>
    cases bs with
    | cons _ _=>exact aV h
    | nil =>
     obtain ⟨rfl,hb⟩:=Dp (x:=(op,b)) h
     exact ⟨rfl,rfl,hb⟩
noncomputable def IT:UnaryOp→Bool
 | .USub=>true
 | _=>false
def unE (F:Fm) (x:PV) (pm:PM) (nx:Led) (Q:KV):Prop:=lE (asI x) (fun n=>Q (.i (-n)) pm nx) (∀ y,x.Is y→GoV F (unaryOp .USub y) pm nx Q)
abbrev IU (F:Fm) (op:Operator) (x:PV) (Q:KV):KV:=fun y pm nx=>Gr F op x y pm nx Q
abbrev J6 (F:Fm) (r:EvT) (op:Operator) (b:Expr) (Q:KV):KV:=fun x pm nx=>r b pm nx (IU F op x Q)
abbrev kUn (F:Fm) (Q:KV):KV:=fun x pm nx=>unE F x pm nx Q
abbrev IV (F:Fm) (op:CmpOp) (x:PV) (Q:KV):KV:=fun y pm nx=>Gu F op x y pm nx Q
abbrev IW (F:Fm) (r:EvT) (p:CmpOp×Expr) (Q:KV):KV:=fun x pm nx=>r p.2 pm nx (IV F p.1 x Q)
abbrev IX (F:Fm) (a i:Expr) (x:PV) (Q:KV):KV:=fun y pm nx=>ow F a i x y pm nx Q
abbrev J7 (F:Fm) (r:EvT) (a i:Expr) (Q:KV):KV:=fun x pm nx=>r i pm nx (IX F a i x Q)
abbrev J8 (F:Fm) (r:EvT) (pos:Pos) (args:List Expr) (Q:KV):KV:=fun f pm nx=>IP F r pos args f pm nx Q
abbrev J9 (F:Fm) (Q:KV):KL:=fun vs pm nx=>Dk F vs pm nx Q
abbrev Ka (F:Fm) (Q:KV):KL:=fun vs pm nx=>IM F vs pm nx Q
abbrev AE (F:Fm) (Q:KB):KV:=fun v pm nx=>AA F v pm nx Q
def FC (F:Fm) (r:EvT) (t:TeT) (e:Expr) (pm:PM) (nx:Led) (Q:KV):Prop :=
 match e with
 | .Constant c k pos=>lE (AB c) (fun v=>Q v pm nx) (GoV F (eval (.Constant c k pos) F.env) pm nx Q)
 | .Name x pos=>lE (look pm x) (fun v=>Q v pm nx) (lE (F.glob x) (fun v=>Q (.v v) pm nx) (GoV F (eval (.Name x pos) F.env) pm nx Q))
 | .BinOp a op b _=>r a pm nx (J6 F r op b Q)
 | .UnaryOp op a pos=>tQ (IT op) (r a pm nx (kUn F Q)) (GoV F (eval (.UnaryOp op a pos) F.env) pm nx Q)
 | .Compare a ops bs pos=>lE (Gw ops bs) (fun p=>r a pm nx (IW F r p Q)) (GoV F (eval (.Compare a ops bs pos) F.env) pm nx Q)
 | .Subscript a i pos=>tQ (bO i) (r a pm nx (J7 F r a i Q)) (GoV F (eval (.Subscript a i pos) F.env) pm nx Q)
 | .Call f args ks pos=>lE (IQ f ks) (fun _=>r f pm nx (J8 F r pos args Q)) (GoV F (eval (.Call f args ks pos) F.env) pm nx Q)
 | .Tuple es _ _=>bN r es pm nx (J9 F Q)
 | .List es _=>bN r es pm nx (Ka F Q)
 | e=>GoV F (eval e F.env) pm nx Q
abbrev Kb (A:PM→Led→KB→Prop) (Q:KB):KB:=fun b pm nx=>ifE b (A pm nx Q) (Q false pm nx)
abbrev kOr (A:PM→Led→KB→Prop) (Q:KB):KB:=fun b pm nx=>ifE b (Q true pm nx) (A pm nx Q)
abbrev Kc (Q:KB):KB:=fun b=>Q (!b)
abbrev Kd (t:TeT) (a b:Expr) (Q:KB):KB:=fun x pm nx=>ifE x (t a pm nx Q) (t b pm nx Q)
def Gx (t:TeT):List Expr→PM→Led→KB→Prop
 | [],pm,nx,Q=>Q true pm nx
 | e::es,pm,nx,Q=>t e pm nx (Kb (Gx t es) Q)
def orE (t:TeT):List Expr→PM→Led→KB→Prop
 | [],pm,nx,Q=>Q false pm nx
 | e::es,pm,nx,Q=>t e pm nx (kOr (orE t es) Q)
def IY (t:TeT) (op:BoolOp) (es:List Expr) (pm:PM) (nx:Led) (Q:KB):Prop :=
 match op with
 | .And=>Gx t es pm nx Q
 | .Or=>orE t es pm nx Q
noncomputable def IZ:UnaryOp→Bool
 | .Not=>true
 | _=>false
def stepT (F:Fm) (r:EvT) (t:TeT) (e:Expr) (pm:PM) (nx:Led) (Q:KB):Prop :=
 match e with
 | .UnaryOp op a pos=>tQ (IZ op) (t a pm nx (Kc Q)) (GoB F (isTrue (.UnaryOp op a pos) F.env (eval (.UnaryOp op a pos) F.env)) pm nx Q)
 | .BoolOp op es _=>IY t op es pm nx Q
 | .IfExp c a b _=>t c pm nx (Kd t a b Q)
 | .Compare a ops bs pos=>lE (Gw ops bs) (fun p=>r a pm nx (IW F r p (AE F Q))) (GoB F (isTrue (.Compare a ops bs pos) F.env (eval (.Compare a ops bs pos) F.env)) pm nx Q)
 | e=>r e pm nx (AE F Q)
noncomputable def wZ (F:Fm):EvT×TeT:=(fun e pm nx Q=>GoV F (eval e F.env) pm nx Q,fun e pm nx Q=>GoB F (isTrue e F.env (eval e F.env)) pm nx Q)
noncomputable def wS (F:Fm) (_:Nat) (r:EvT×TeT):EvT×TeT:=(FC F r.1 r.2,stepT F r.1 r.2)
noncomputable def WW (F:Fm) (n:Nat):EvT×TeT:=Nat.rec (wZ F) (wS F) n
def nq (F:Fm) (r:EvT):Prop:=∀ e pm nx Q,r e pm nx Q→GoV F (eval e F.env) pm nx Q
def xp (F:Fm) (t:TeT):Prop:=∀ e pm nx Q,t e pm nx Q→GoB F (isTrue e F.env (eval e F.env)) pm nx Q
section
variable {F:Fm} {pm:PM} {nx:Led}
theorem AF {r:EvT} (hr:nq F r) (pos:Pos):∀ (es:List Expr) {pm:PM} {nx:Led} {Q:KL},bN r es pm nx Q→GoL F (spliced (backTo pos (starEach es F.env))) pm nx Q:=by
 intro zz
 induction zz with
 | nil =>
  intro pm nx Q h
  exact fun s P hR hP=>args_nil (hP _ _ _ _ _ h .nil hR)
 | cons e es ih =>
  intro pm nx Q h
  unfold bN at h
  split at h
  ·rename_i hs
   intro s P hR hP
   refine args_cons (hr _ _ _ _ h s _ hR fun v a pm' nx' s' q hv hR'=>?_) (aW hs es F.env)
   exact ih q s' _ hR' fun vs as pm'' nx'' s'' q' hvs hR''=>hP _ _ _ _ _ q' (.cons hv hvs) hR''
  ·exact h.elim
theorem bh {r:EvT} {e:Expr} {es:List Expr} {Q:KL} (h:bN r (e::es) pm nx Q):notStar e=true:=by
 unfold bN at h
 split at h
 ·assumption
 ·exact h.elim
end
theorem plain_any {pos:Pos} {env:Env}:∀ {es:List Expr},a8 es=true→(backTo pos (starEach es env)).any (·.1)=false
 | [],_=>rfl
 | e :: es, h => by
  unfold a8 at h
  rw [Bool.and_eq_true] at h
  rw [aW h.1]
  have:=plain_any (pos:=pos) (env:=env) h.2
  unfold backTo at this ⊢
  exact this
section
variable {F:Fm} {pm:PM} {nx:Led}
theorem bS {r:EvT} (hr:nq F r) (pos:Pos) {es:List Expr} {Q:KL} (h:bN r es pm nx Q) {s:Shared} {P:List Value→Shared→Prop} (hR:F.R pm nx s)
  (hP:∀ vs as pm' nx' s',Q vs pm' nx'→AllIs vs as→F.R pm' nx' s'→P as s'):wpAny F.M F.A (spliced (backTo pos (starEach es F.env))) P NoE s:=AF hr pos es h s P hR hP
theorem Dq (ok:F.Ok) {r:EvT} (hr:nq F r) {pos:Pos} {args:List Expr} {f:PV} {Q:KV} (h:IP F r pos args f pm nx Q):∀ y,f.Is y→GoV F (callWith pos y [] (backTo pos (starEach args F.env)) []) pm nx Q:=by
 refine bR h (fun g hg k=>?_) fun h=>h
 cases args with
 | nil=>exact aV hg
 | cons e es =>
  have hs:=bh k
  have hp:a8 (e::es)=true:=by
   cases hp:a8 (e::es) with
   | true=>rfl
   | false=>rw [show Gv (e::es) f=(match a8 (e::es) with | true=>Dl f | false=>none) from rfl,hp] at hg;exact aV hg
  rw [show Gv (e::es) f=(match a8 (e::es) with | true=>Dl f | false=>none) from rfl,hp] at hg
  unfold a8 at hp
  rw [hs,Bool.true_and] at hp
  obtain ⟨rfl,hk⟩:=Dn hg
  intro y hy s P hR hP
  cases hy
  have ha:=bS hr pos k hR (P:=fun as s'=>wpAny F.M F.A (call g as) P NoE s') fun vs as pm' nx' s' q hv hR'=>q as hv s' _ hR' hP
  rcases hk with ⟨id,rfl⟩ | ⟨T,rfl⟩
  ·exact callWith_builtin1 ha (aW hs _ _) (plain_any hp)
  ·exact callWith_type1 ha (aW hs _ _) (plain_any hp)
theorem Gy (ok:F.Ok) {r:EvT} (hr:nq F r) {a:Addr} {pos:Pos} {e:Expr} {es:List Expr} {Q:KV} (hf:F.fn a=true) (h:bN r (e::es) pm nx (Az F (.ref a) Q)):GoV F (callWith pos (.ref a) [] (backTo pos (starEach (e::es) F.env)) []) pm nx Q:=by
 intro s P hR hP
 obtain ⟨o,fd,hd,ho⟩:=ok.func hf
 exact callWith_def hd (bS hr pos h hR fun vs as pm' nx' s' q hv hR'=>⟨ho hR',q as hv s' _ hR' hP⟩) (aW (bh h) _ _)
theorem sd {v:PV} {Q:KB} (h:AA F v pm nx Q):∀ y,v.Is y→GoB F (truthy y) pm nx Q:=by
 unfold AA at h
 split at h
 ·intro y hy s P hR hP
  obtain rfl:=hy
  exact wpAny_truthy_bool (hP _ _ _ _ _ h rfl hR)
 ·intro y hy s P hR hP
  obtain rfl:=hy
  exact truthy_none (hP _ _ _ _ _ h rfl hR)
 ·intro y hy s P hR hP
  obtain ⟨t,rfl⟩:=hy
  exact _root_.PySem.P.truthy_int (hP _ _ _ _ _ h rfl hR)
 ·exact h
end
section
variable {F:Fm} {pm:PM} {nx:Led}
theorem AG (ok:F.Ok) {c:Const} {k:Nat} {pos:Pos} {v:PV} {Q:KV} (hc:AB c=some v) (h:Q v pm nx):GoV F (eval (.Constant c k pos) F.env) pm nx Q:=by
 cases c with
 | int n=>cases hc;exact fun s P hR hP=>wpAny_Constant_int (hP _ _ _ _ _ h ⟨_,rfl⟩ (ok.toks _ hR))
 | float n=>cases hc;exact fun s P hR hP=>PySem.wpAny_Constant_float (hP _ _ _ _ _ h ⟨_,rfl⟩ (ok.toks _ hR))
 | str n=>cases hc;exact fun s P hR hP=>wpAny_Constant_str (hP _ _ _ _ _ h ⟨_,rfl⟩ (ok.toks _ hR))
 | bool n=>cases hc;exact fun s P hR hP=>wpAny_Constant_bool (hP _ _ _ _ _ h rfl hR)
 | none=>cases hc;exact fun s P hR hP=>wpAny_Constant_none (hP _ _ _ _ _ h rfl hR)
 | _=>exact aV hc
theorem Gz (ok:F.Ok) {x:PV} {Q:KV} (h:unE F x pm nx Q):∀ y,x.Is y→GoV F (unaryOp .USub y) pm nx Q :=
 bR h (fun n hn q y hy s P hR hP=>by
  obtain ⟨u,rfl⟩:=au hn hy
  exact _root_.PySem.P.neg_int (hP _ _ _ _ _ q ⟨_,rfl⟩ (ok.toks _ hR))) fun q=>q
theorem AH (ok:F.Ok) {r:EvT} {t:TeT} (hr:nq F r) (ht:xp F t):nq F (FC F r t):=by
 intro e pm nx Q h
 cases e with
 | Constant c k pos=>exact bR h (fun v hv q=>AG ok hv q) fun q=>q
 | Name x pos=>exact bR h (fun v hv q s P hR hP=>ok.read hR hv fun v hv=>hP _ _ _ _ _ q hv hR) fun q=>bR q (fun v hv q s P hR hP=>ok.globR hR hv (hP _ _ _ _ _ q rfl hR)) fun q=>q
 | BinOp a op b pos=>exact fun s P hR hP=>wpAny_BinOp (hr _ _ _ _ h s _ hR fun a x _ _ s1 h1 hx hR1=>hr _ _ _ _ h1 s1 _ hR1 fun b y _ _ s2 h2 hy hR2=>Df ok h2 x y hx hy s2 _ hR2 hP)
 | UnaryOp op a pos =>
  refine hW h (fun ho q=>?_) fun q=>q
  cases op with
  | USub=>exact fun s P hR hP=>wpAny_UnaryOp (hr _ _ _ _ q s _ hR fun a x _ _ s1 h1 hx hR1=>Gz ok h1 x hx s1 _ hR1 hP)
  | _=>exact bA ho
 | Compare a ops bs pos =>
  refine bR h (fun p hp q=>?_) fun q=>q
  obtain ⟨rfl,rfl,hb⟩:=vW hp
  exact fun s P hR hP=>wpAny_Compare1 (hr _ _ _ _ q s _ hR fun a x _ _ s1 h1 hx hR1=>hr _ _ _ _ h1 s1 _ hR1 fun b y _ _ s2 h2 hy hR2=>vV h2 x y hx hy s2 _ hR2 hP) hb
 | Subscript a i pos =>
  refine hW h (fun hs q s P hR hP=>?_) fun q=>q
  exact Subscript_ (hr _ _ _ _ q s _ hR fun a x _ _ s1 h1 hx hR1=>hr _ _ _ _ h1 s1 _ hR1 fun b y _ _ s2 h2 hy hR2=>h2 x y hx hy s2 _ hR2 hP)
 | Call f args ks pos =>
  refine bR h (fun x hx q=>?_) fun q=>q
  cases ks with
  | cons _ _=>exact aV hx
  | nil =>
   obtain ⟨p,rfl⟩:=lF hx
   exact fun s P hR hP=>Call_ (hr _ _ _ _ q s _ hR fun a x _ _ s1 h1 hx hR1=>Dq ok hr h1 x hx s1 _ hR1 hP)
 | Tuple es k pos=>exact fun s P hR hP=>Tuple_ (bS hr _ h hR fun vs as pm' nx' s' q hv hR'=>q as hv s' _ hR' hP)
 | List es pos=>exact fun s P hR hP=>List_ (bS hr _ h hR fun vs as pm' nx' s' q hv hR'=>q as hv s' _ hR' hP)
 | _=>exact h
theorem Dr {t:TeT} (ht:xp F t) {pos:Pos} {whole:Sem Value}:∀ {es:List Expr} {pm nx} {Q:KB},Gx t es pm nx Q→GoB F (isTrue (.BoolOp .And es pos) F.env whole) pm nx Q:=by
 intro zz
 induction zz with
 | nil =>
  intro pm nx Q h
  exact fun s P hR hP=>isTrue_and_nil (hP _ _ _ _ _ h rfl hR)
 | cons e es ih =>
  intro pm nx Q h
  refine fun s P hR hP=>isTrue_and (ht _ _ _ _ h s _ hR fun b c _ _ s1 h1 hb hR1=>?_)
  obtain rfl:=hb
  cases b
  ·exact hP _ _ _ _ _ (h1.2 rfl) rfl hR1
  ·exact ih (h1.1 rfl) s1 _ hR1 hP
theorem GA {t:TeT} (ht:xp F t) {pos:Pos} {whole:Sem Value}:∀ {es:List Expr} {pm nx} {Q:KB},orE t es pm nx Q→GoB F (isTrue (.BoolOp .Or es pos) F.env whole) pm nx Q:=by
 intro zz
 induction zz with
 | nil =>
  intro pm nx Q h
  exact fun s P hR hP=>isTrue_or_nil (hP _ _ _ _ _ h rfl hR)
 | cons e es ih =>
  intro pm nx Q h
  refine fun s P hR hP=>isTrue_or (ht _ _ _ _ h s _ hR fun b c _ _ s1 h1 hb hR1=>?_)
  obtain rfl:=hb
  cases b
  ·exact ih (h1.2 rfl) s1 _ hR1 hP
  ·exact hP _ _ _ _ _ (h1.1 rfl) rfl hR1
theorem xq {r:EvT} (hr:nq F r) {e:Expr} {Q:KB} (h:r e pm nx (AE F Q)) (he:isTrue e F.env (eval e F.env)=(do let v ← eval e F.env;standAt e.pos;holding [v] (truthy v))):GoB F (isTrue e F.env (eval e F.env)) pm nx Q :=
 fun s P hR hP=>isTrue_plain (hr _ _ _ _ h s _ hR fun a x _ _ s1 h1 hx hR1=>sd h1 x hx s1 _ hR1 hP) he
theorem AI {r:EvT} {t:TeT} (hr:nq F r) (ht:xp F t):xp F (stepT F r t):=by
 intro e pm nx Q h
 cases e with
 | UnaryOp op a pos =>
  refine hW h (fun ho q=>?_) fun q=>q
  cases op with
  | Not=>exact fun s P hR hP=>isTrue_not (ht _ _ _ _ q s _ hR fun b c _ _ s1 h1 hb hR1=>hP _ _ _ _ _ h1 (congrArg (!·) hb) hR1)
  | _=>exact bA ho
 | BoolOp op es pos =>
  cases op with
  | And=>exact Dr ht h
  | Or=>exact GA ht h
 | IfExp c a b pos=>exact fun s P hR hP=>isTrue_IfExp (ht _ _ _ _ h s _ hR fun b c _ _ s1 h1 hb hR1=>by
   obtain rfl:=hb
   cases b
   ·exact ht _ _ _ _ (h1.2 rfl) s1 _ hR1 hP
   ·exact ht _ _ _ _ (h1.1 rfl) s1 _ hR1 hP)
 | Compare a ops bs pos =>
  refine bR h (fun p hp q=>?_) fun q=>q
  obtain ⟨rfl,rfl,hb⟩:=vW hp
  exact fun s P hR hP=>wpAny_isTrue_Compare1 (hr _ _ _ _ q s _ hR fun a x _ _ s1 h1 hx hR1=>hr _ _ _ _ h1 s1 _ hR1 fun b y _ _ s2 h2 hy hR2=>vV h2 x y hx hy s2 _ hR2 fun v z _ _ s3 h3 hz hR3=>sd h3 z hz s3 _ hR3 hP) hb
 | _=>exact xq hr h rfl
end
theorem ar {F:Fm} (ok:F.Ok):∀ n,nq F (WW F n).1∧xp F (WW F n).2
 | 0=>⟨fun _ _ _ _ h=>h,fun _ _ _ _ h=>h⟩
 | n + 1=>⟨AH ok (ar ok n).1 (ar ok n).2,AI (ar ok n).1 (ar ok n).2⟩
def fS (F:Fm) (x:Str) (v:PV) (pm:PM) (nx:Led) (Q:KU):Prop :=
 match F.sto x with
 | true=>Q (put x v pm) nx
 | false=>∀ y,v.Is y→GoU F (storeName F.env x y) pm nx Q
noncomputable def ml:Expr→Bool
 | .ListComp .. | .SetComp .. | .DictComp ..=>false
 | _=>true
noncomputable def isRef:PV→Bool
 | .v (.ref _)=>true
 | _=>false
def GB (F:Fm) (op:Operator) (a b:PV) (pm:PM) (nx:Led) (Q:KV):Prop :=
 match op,asI a,asI b with
 | .Add,some m,some n=>Q (.i (m + n)) pm nx
 | op, _, _ => (match op, asS a, asS b with
  | .Add,some m,some n=>m.length + n.length≤sizeLine∧Q (.s (m++n)) pm nx
  | op,_,_=>∀ x y,a.Is x→b.Is y→GoV F (inplaceOp op x y) pm nx Q)
noncomputable abbrev SsT:=List Stmt→PM→Led→KF→Prop
abbrev GC (F:Fm) (x:Str) (Q:KF):KV:=fun v pm nx=>fS F x v pm nx (Q .next)
abbrev Ke (F:Fm) (op:Operator) (x:Str) (a:PV) (Q:KF):KV:=fun b pm nx=>GB F op a b pm nx (GC F x Q)
abbrev Kf (Q:KF):KV:=fun v=>Q (.ret v)
abbrev I0 (Q:KF):KV:=fun v pm nx=>tQ (isRef v) False (Q .next pm nx)
abbrev Kg (A:PM→Led→KF→Prop) (Q:KF):KF:=fun f pm nx=>match f with
 | .next=>A pm nx Q
 | .brk=>Q .brk pm nx
 | .cont=>Q .cont pm nx
 | .ret v=>Q (.ret v) pm nx
def FD (F:Fm) (r:EvT) (st:Stmt) (pm:PM) (nx:Led) (Q:KF):Prop :=
 match st with
 | .Assign ts value pos=>lE (FA ts) (fun x=>tQ (ml value) (r value pm nx (GC F x Q)) (GoF F (exec (.Assign ts value pos) F.env) pm nx Q)) (GoF F (exec (.Assign ts value pos) F.env) pm nx Q)
 | .AugAssign t op value pos=>lE (nameOf t) (fun x=>lE (look pm x) (fun a=>r value pm nx (Ke F op x a Q)) (GoF F (exec (.AugAssign t op value pos) F.env) pm nx Q)) (GoF F (exec (.AugAssign t op value pos) F.env) pm nx Q)
 | .Return eo _ => (match eo with
  | some e=>r e pm nx (Kf Q)
  | none=>Q (.ret (.v .none)) pm nx)
 | .Expr e pos=>tQ (ml e) (r e pm nx (I0 Q)) (GoF F (exec (.Expr e pos) F.env) pm nx Q)
 | .Pass _=>Q .next pm nx
 | .Break _=>Q .brk pm nx
 | .Continue _=>Q .cont pm nx
 | st=>GoF F (exec st F.env) pm nx Q
noncomputable def listS (S:Stmt→PM→Led→KF→Prop):SsT
 | [],pm,nx,Q=>Q .next pm nx
 | s::r,pm,nx,Q=>S s pm nx (Kg (listS S r) Q)
noncomputable def SS (F:Fm):SsT:=listS (FD F (WW F 30).1)
section
variable {F:Fm} {pm:PM} {nx:Led}
theorem c6 (ok:F.Ok) {x:Str} {v:PV} {Q:KU} (h:fS F x v pm nx Q):∀ y,v.Is y→GoU F (storeName F.env x y) pm nx Q:=by
 unfold fS at h
 split at h
 ·exact fun y hy s P hR hP=>ok.store ‹_› hR hy fun s' hR'=>hP () _ _ _ _ h rfl hR'
 ·exact h
theorem iN {e:Expr} (h:ml e=true) (t:Option Expr) (n:Nat) (env:Env):swapsWith e t n env=pure false:=by
 cases e <;> first | rfl | exact bA h
theorem Ds (ok:F.Ok) {op:Operator} {a b:PV} {Q:KV} (h:GB F op a b pm nx Q):∀ x y,a.Is x→b.Is y→GoV F (inplaceOp op x y) pm nx Q:=by
 unfold GB at h
 split at h
 ·intro x y hx hy s P hR hP
  obtain ⟨t,rfl⟩:=au ‹asI a=_› hx
  obtain ⟨u,rfl⟩:=au ‹asI b=_› hy
  exact _root_.PySem.P.iadd_int (hP _ _ _ _ _ h ⟨_,rfl⟩ (ok.toks _ hR))
 ·split at h
  ·intro x y hx hy s P hR hP
   obtain ⟨t,rfl⟩:=aJ ‹asS a=_› hx
   obtain ⟨u,rfl⟩:=aJ ‹asS b=_› hy
   exact SBL.iadd (fun t' k _=>hP _ _ _ _ _ h.2 ⟨_,rfl⟩ (ok.toks _ hR)) h.1
  ·exact h
abbrev Kh (F:Fm) (S:SsT):Prop:=∀ ss pm nx Q,S ss pm nx Q→GoF F (execs ss F.env) pm nx Q
theorem Du {e:Expr} {pos:Pos} {r:EvT} (ok:F.Ok) (hr:nq F r) (hc:ml e=true) {Q:KF} (h:r e pm nx (I0 Q)):GoF F (exec (.Expr e pos) F.env) pm nx Q:=by
 refine fun s P hR hP=>wpAny_Expr (hr _ _ _ _ h s _ hR fun a x _ _ s1 h1 hx hR1=>?_) ok.inter (iN hc _ _ _)
 split
 ·cases a with
  | v y=>obtain rfl:=hx;exact h1.elim
  | i k=>obtain ⟨_,e⟩:=hx;cases e
  | f k=>obtain ⟨_,e⟩:=hx;cases e
  | s k=>obtain ⟨_,e⟩:=hx;cases e
 ·exact hW h1 (fun _ q=>q.elim) fun q=>hP _ _ _ _ _ q rfl hR1
theorem se (ok:F.Ok) {r:EvT} (hr:nq F r) {st:Stmt} {pm:PM} {nx:Led} {Q:KF} (h:FD F r st pm nx Q):GoF F (exec st F.env) pm nx Q:=by
 cases st with
 | Assign ts value pos =>
  refine bR h (fun x hx q=>?_) fun q=>q
  obtain ⟨p,rfl⟩:=AD hx
  exact hW q (fun hc q s P hR hP=>wpAny_Assign_Name (hr _ _ _ _ q s _ hR fun a x _ _ s1 h1 hx hR1=>c6 ok h1 x hx s1 _ hR1 fun _ _ _ _ s2 h2 _ hR2=>hP _ _ _ _ _ h2 rfl hR2) (iN hc _ _ _)) fun q=>q
 | AugAssign t op value pos =>
  refine bR h (fun x hx q=>?_) fun q=>q
  obtain ⟨p,rfl⟩:=lF hx
  exact bR q (fun a ha q s P hR hP=>wpAny_AugAssign_Name ((ok.load hR ha).2 fun v hv=>hr _ _ _ _ q s _ hR fun a x _ _ s1 h1 hx hR1=>Ds ok h1 v x hv hx s1 _ hR1 fun b y _ _ s2 h2 hy hR2=>c6 ok h2 y hy s2 _ hR2 fun _ _ _ _ s3 h3 _ hR3=>hP _ _ _ _ _ h3 rfl hR3)) fun q=>q
 | Return eo pos =>
  cases eo with
  | some e=>exact fun s P hR hP=>wpAny_Return_some (hr _ _ _ _ h s _ hR fun a x _ _ s1 h1 hx hR1=>hP _ _ _ _ _ h1 ⟨_,rfl,hx⟩ hR1)
  | none=>exact fun s P hR hP=>wpAny_Return_none (hP _ _ _ _ _ h ⟨_,rfl,rfl⟩ hR)
 | Expr e pos=>exact hW h (fun hc q=>Du ok hr hc q) fun q=>q
 | Pass pos=>exact fun s P hR hP=>wpAny_Pass (hP _ _ _ _ _ h rfl hR)
 | Break pos=>exact fun s P hR hP=>wpAny_Break (hP _ _ _ _ _ h rfl hR)
 | Continue pos=>exact fun s P hR hP=>wpAny_Continue (hP _ _ _ _ _ h rfl hR)
 | _=>exact h
theorem AJ {S:Stmt→PM→Led→KF→Prop} (hS:∀ st pm nx Q,S st pm nx Q→GoF F (exec st F.env) pm nx Q):∀ (ss:List Stmt) {pm nx} {Q:KF},listS S ss pm nx Q→GoF F (execs ss F.env) pm nx Q:=by
 intro zz
 induction zz with
 | nil =>
  intro pm nx Q h
  exact fun s P hR hP=>wpAny_execs_nil (hP _ _ _ _ _ h rfl hR)
 | cons st ss ih =>
  intro pm nx Q h
  refine fun s P hR hP=>wpAny_execs_cons (hS _ _ _ _ h s _ hR fun f fl _ _ s1 h1 hf hR1=>?_)
  cases f with
  | next=>obtain rfl:=hf;exact ih h1 s1 _ hR1 hP
  | brk=>obtain rfl:=hf;exact hP _ _ _ _ _ h1 rfl hR1
  | cont=>obtain rfl:=hf;exact hP _ _ _ _ _ h1 rfl hR1
  | ret v=>obtain ⟨x,rfl,hx⟩:=hf;exact hP _ _ _ _ _ h1 ⟨_,rfl,hx⟩ hR1
theorem iO (ok:F.Ok):Kh F (SS F):=fun ss _ _ _ h=>AJ (fun _ _ _ _ h=>se ok (ar ok 30).1 h) ss h
abbrev kIf (F:Fm) (a b:List Stmt) (Q:KF):KB:=fun x pm nx=>ifE x (SS F a pm nx Q) (SS F b pm nx Q)
abbrev Ki (F:Fm) (a b:Expr) (Q:KV):KB:=fun x pm nx=>ifE x ((WW F 30).1 a pm nx Q) ((WW F 30).1 b pm nx Q)
theorem aq (ok:F.Ok) {c:Expr} {a b:List Stmt} {pos:Pos} {Q:KF} (h:(WW F 30).2 c pm nx (kIf F a b Q)):GoF F (exec (.If c a b pos) F.env) pm nx Q:=by
 refine fun s P hR hP=>wpAny_If ((ar ok 30).2 _ _ _ _ h s _ hR fun b c _ _ s1 h1 hb hR1=>?_)
 obtain rfl:=hb
 cases b
 ·exact iO ok _ _ _ _ (h1.2 rfl) s1 _ hR1 hP
 ·exact iO ok _ _ _ _ (h1.1 rfl) s1 _ hR1 hP
theorem meet {st:Stmt} (ok:F.Ok) (pmJ:PM) (nxJ:Led) {Q:KF} (h:∀ Q':KF,(∀ pm' nx',Sub pmJ pm'→(∀ p∈nxJ,p∈nx')→Q' .next pm' nx')→GoF F (exec st F.env) pm nx Q') (h2:Q .next pmJ nxJ):GoF F (exec st F.env) pm nx Q :=
 fun s P hR hP=>h (fun f pm' nx'=>f=.next∧Sub pmJ pm'∧∀ p∈nxJ,p∈nx') (fun _ _ h1 h2=>⟨rfl,h1,h2⟩) s P hR fun _ _ _ _ _ q hf hR'=>by
  obtain ⟨rfl,h3,h4⟩:=q
  exact hP _ _ _ _ _ h2 hf (ok.sub hR' h3 h4)
theorem ny (ok:F.Ok) {c a b:Expr} {pos:Pos} {Q:KV} (h:(WW F 30).2 c pm nx (Ki F a b Q)):GoV F (eval (.IfExp c a b pos) F.env) pm nx Q:=by
 refine fun s P hR hP=>wpAny_IfExp ((ar ok 30).2 _ _ _ _ h s _ hR fun b c _ _ s1 h1 hb hR1=>?_)
 obtain rfl:=hb
 cases b
 ·exact (ar ok 30).1 _ _ _ _ (h1.2 rfl) s1 _ hR1 hP
 ·exact (ar ok 30).1 _ _ _ _ (h1.1 rfl) s1 _ hR1 hP
theorem I4 {e:Expr} (ok:F.Ok) (z:PV) {Q:KV} (h:GoV F (eval e F.env) pm nx fun x pm' nx'=>x=z∧Sub pm pm'∧∀ p∈nx,p∈nx') (h2:Q z pm nx):GoV F (eval e F.env) pm nx Q :=
 fun s P hR hP=>h s P hR fun _ _ _ _ _ q hf hR'=>by
  obtain ⟨rfl,h3,h4⟩:=q
  exact hP _ _ _ _ _ h2 hf (ok.sub hR' h3 h4)
end
theorem kJ {F:Fm} (ok:F.Ok) {pm:PM} {nx:Led} {σ:Type} (ps:σ→PM) (led:σ→Led) (P:σ→Prop) (μ:σ→Nat) (c₀:σ) {test:Expr} {body:List Stmt} {pos:Pos} {Q:KF} (h0:P c₀∧Sub (ps c₀) pm∧∀ p∈led c₀,p∈nx)
  (turn:∀ c,P c→∀ Q':KF,(∀ pm nx c',μ c' < μ c→P c'→Sub (ps c') pm→(∀ p∈led c',p∈nx)→Q' .next pm nx)→(WW F 30).2 test (ps c) (led c) fun b pm nx=>ifE b (SS F body pm nx Q') (Q .next pm nx)):GoF F (exec (.While test body [] pos) F.env) pm nx Q:=by
 intro s T hR hT
 refine wpAny_While (codeAny_whileLoop (fun n s=>∃ c,μ c=n∧P c∧F.R (ps c) (led c) s) ?_ (μ c₀) ⟨c₀,rfl,h0.1,ok.sub hR h0.2.1 h0.2.2⟩)
 rintro n s ⟨c,rfl,hP,hR⟩
 refine wpAny_mono ((ar ok 30).2 _ _ _ _ (turn c hP (fun f pm nx=>f=.next∧∃ c',μ c' < μ c∧P c'∧Sub (ps c') pm∧∀ p∈led c',p∈nx) fun _ _ c' h1 h2 h3 h4=>⟨rfl,c',h1,h2,h3,h4⟩) s (fun b s₂=>if b then wpAny F.M F.A (execs body F.env) (fun f s₃=>match f with
   | .next=>∃ m,m < μ c∧∃ c,μ c=m∧P c∧F.R (ps c) (led c) s₃
   | .cont=>∃ m,m < μ c∧∃ c,μ c=m∧P c∧F.R (ps c) (led c) s₃
   | .brk=>T .next s₃
   | .ret v=>T (.ret v) s₃) NoE s₂ else T .next s₂) hR fun b b' _ _ s1 h1 hb hR1=>?_) (fun b s₂ h₂=>?_) fun _ _ x=>x.elim
 ·obtain rfl:=hb
  cases b
  ·exact hT _ _ _ _ _ (h1.2 rfl) rfl hR1
  ·refine iO ok _ _ _ _ (h1.1 rfl) s1 _ hR1 fun f fl _ _ s2 h2 hf hR2=>?_
   obtain ⟨rfl,c',a,b,d,e⟩:=h2
   obtain rfl:=hf
   exact ⟨_,a,c',rfl,b,ok.sub hR2 d e⟩
 ·cases b
  ·exact wpAny_mono (wpAny_execs_nil (E:=NoE) h₂) (fun f s₃ q=>q) fun _ _ x=>x.elim
  ·refine wpAny_mono h₂ (fun f s₃ q=>?_) fun _ _ x=>x.elim
   cases f <;> exact q
theorem bc {F:Fm} {pm:PM} {nx:Led} (ok:F.Ok) {a:Addr} {pos:Pos} {e:Expr} {es:List Expr} {Q:KV} (h:bN (WW F 30).1 (e::es) pm nx (Az F (.ref a) Q)) (hf:F.fn a=true:=by rfl):∀ y,(PV.v (.ref a)).Is y→GoV F (callWith pos y [] (backTo pos (starEach (e::es) F.env)) []) pm nx Q:=fun y hy=>by obtain rfl:=hy;exact Gy ok (ar ok 30).1 hf h
end Mine
end
section
namespace Mine
theorem GD {h₀ h h':Heap} {L c:Addr} {os nx:Led} {o':Obj} (N:News h₀ L h (os++nx)) (hc:∃ o,(c,o)∈os) (ap:∀ p∈os,∀ q∈nx,p.1≠q.1) (hs:Heap.SameBut c h h') (ho:h'.get? c=some o') :
  News h₀ L h' ((os.map fun p=>if p.1=c then (c,o') else p)++nx):=by
 obtain ⟨o,hm⟩:=hc
 have hN:=N (c,o) (apL hm)
 intro q hq
 rcases apX hq with hq | hq
 ·obtain ⟨p,hp⟩:=bI hq
  by_cases e:p.1=c
  ·rw [if_pos e]
   exact ⟨ho,hN.2⟩
  ·rw [if_neg e]
   have:=N p (apL hp)
   exact ⟨(hs.2 p.1 e).trans this.1,this.2⟩
 ·have:=N q (apR hq)
  exact ⟨(hs.2 q.1 (Ne.symm (ap _ hm _ hq))).trans this.1,this.2⟩
theorem Cx.R.with {C:Cx} {sc:Scope} {pm:PM} {nx:Led} {s:Shared} (h:C.R sc pm nx s) (k:Nat):C.R sc pm nx { s with toks:=k }:=by
 obtain ⟨m,cm,os,F,N,Y,ap,ft,hp,tk,rfl⟩:=h
 exact ⟨m,cm,os,F,N,Y,ap,ft,hp,k,rfl⟩
theorem Cx.R.open {C:Cx} {sc:Scope} {pm:PM} {nx:Led} {s:Shared} {G:Prop} (h:C.R sc pm nx s)
  (k:∀ m os,Fr C.h₀ C.L s.heap m→News C.h₀ C.L s.heap (os++nx)→(∀ p∈os,∀ q∈nx,p.1≠q.1) →
   (∀ h' tk' nx',Fr C.h₀ C.L h' m→News C.h₀ C.L h' (os++nx')→(∀ p∈os,∀ q∈nx',p.1≠q.1)→C.R sc pm nx' { s with heap:=h',toks:=tk' })→G):G:=by
 obtain ⟨m,cm,os,F,N,Y,ap,ft,hp,tk,rfl⟩:=h
 exact k m os F N ap fun h' tk' nx' F' N' ap'=>⟨m,cm,os,F',N',Y,ap',ft,h',tk',rfl⟩
theorem Cx.fmOk {C:Cx} {w:World} {sc:Scope} {D:Nat} (ok:C.Ok w sc D):(C.fm w sc).Ok where
 hA:=rfl
 gr:=⟨D,ok⟩
 kind:=ok.kind
 glb:=rfl
 blt:=rfl
 opc:=by
  rintro pm nx s ⟨m,cm,os,F,N,Y,ap,ft,hp,tk,rfl⟩
  refine ⟨m,os,F,N,ap,fun x pv c hl hc=>?_,fun h' tk' nx' F' N' ap'=>⟨m,cm,os,F',N',Y,ap',ft,h',tk',rfl⟩⟩
  have hc:(match lkK sc.names x with | some .cell=>C.cl.lookup x | some .free=>(match x==("__classdict__":Str) with | true=>none | false=>C.cl.lookup x) | _=>none)=some c:=hc
  have hc':C.cl.lookup x=some c∧sc.names.lookup x≠some .local:=by
   split at hc
   ·rename_i e;rw [bB e];exact ⟨hc,nofun⟩
   ·rename_i e;rw [bB e]
    split at hc
    ·exact aV hc
    ·exact ⟨hc,nofun⟩
   ·exact aV hc
  cases ft x pv hl with
  | loc v hd hv h _=>exact absurd h hc'.2
  | cel v c hd hv hk _ hcm =>
   obtain ⟨o,ho,hod⟩:=dH Y (mem_of_lookup hc'.1)
   exact ⟨o,v,ho,by rw [hod,hcm],hv⟩
 pms:=by
  rintro pm pm' nx s ⟨m,cm,os,F,N,Y,ap,ft,hs⟩ hsub
  refine ⟨m,cm,os,F,N,Y,ap,fun x pv h=>?_,hs⟩
  obtain ⟨u,hu,hle⟩:=hsub.look h
  cases ft x u hu with
  | loc v h1 h2 h3 h4=>exact .loc v h1 (hle.is h2) h3 h4
  | cel v c h1 h2 h3 h4 h5=>exact .cel v c h1 (hle.is h2) h3 h4 h5
 load:=by
  rintro pm nx s x pv ⟨m,cm,os,F,N,Y,ap,ft,hs⟩ hl
  cases ft x pv hl with
  | loc v hd hv h1 h2=>exact ⟨hd,fun hP=>wpAny_loadName_local ok.kind h1 F.ns h2 (hP v hv)⟩
  | cel v c hd hv hk hc hcm =>
   obtain ⟨o,ho,hod⟩:=dH Y (mem_of_lookup hc)
   rw [hcm] at hod
   have ho:=N.get (apL ho)
   exact ⟨hd,fun hP=>hk.elim (fun hk=>wpAny_loadName_cell ok.kind hk hc ⟨o,ho,hod⟩ (hP v hv)) fun hk=>wpAny_loadName_free ok.kind hk.1 hc ⟨o,ho,hod⟩ (hP v hv) hk.2⟩
 store:=by
  rintro pm nx s x pv v P hx ⟨m,cm,os,F,N,Y,ap,ft,hp,tk,rfl⟩ hv hP
  have hx:q6 sc x=true:=hx
  unfold q6 at hx
  have hdb:(x==("__debug__":Str))=false:=by
   split at hx <;> first | exact dI hx | exact bA hx
  split at hx
  ·rename_i hk
   refine storeX_L F (N:=N) (fun h' F' N'=>hP _ ⟨_,cm,os,F',N',Y,ap,fun y pw hy=>?_,h',_,rfl⟩) ok.kind (bB hk)
   rw [nk] at hy
   split at hy
   ·rename_i e
    cases hy
    rw [← dm e]
    exact .loc v hdb hv (bB hk) (if_pos rfl)
   ·rename_i e
    have hne:y≠x:=fun q=>by rw [q,dh] at e;exact kE e
    cases ft y pw hy with
    | loc u hd hu h1 h2=>exact .loc u hd hu h1 ((if_neg hne).trans h2)
    | cel u c hd hu h1 h2 h3=>exact .cel u c hd hu h1 h2 h3
  ·rename_i hk
   obtain ⟨c,hc⟩:=ok.cells x (bB hk)
   have hmem:=mem_of_lookup hc
   obtain ⟨o,ho,hod⟩:=dH Y hmem
   refine wpAny_storeName_cell ok.kind (bB hk) hc ⟨o,N.get (apL ho),hod⟩ fun h' hv' hs=>?_
   obtain ⟨o',ho',hd'⟩:=hv'
   have hN:=N (c,o) (apL ho)
   have Y':=(lD (v:=v) hd' Y hmem ok.names).resolve_right (not_not_intro ok.addrs)
   refine hP _ ⟨m,_,_,⟨F.ns.sameBut hs (Ne.symm hN.2.1),fun b ob e=>(hs.2 b (fun q=>?_)).trans (F.keep b ob e),F.above⟩,GD N ⟨o,ho⟩ ap hs ho',Y',fun p hp q hq=>?_,fun y pw hy=>?_,h',_,rfl⟩
   ·rw [q,hN.2.2] at e;exact aV e
   ·obtain ⟨p',hp',rfl⟩:=List.mem_map.mp hp
    split
    ·exact ap _ ho _ hq
    ·exact ap _ hp' _ hq
   ·rw [nk] at hy
    split at hy
    ·rename_i e
     cases hy
     rw [← dm e]
     exact .cel v c hdb hv (.inl (bB hk)) hc (if_pos rfl)
    ·rename_i e
     have hne:y≠x:=fun q=>by rw [q,dh] at e;exact kE e
     cases ft y pw hy with
     | loc u hd hu h1 h2=>exact .loc u hd hu h1 h2
     | cel u c hd hu h1 h2 h3=>exact .cel u c hd hu h1 h2 ((if_neg hne).trans h3)
  ·exact bA hx
end Mine
end
section
namespace Mine
theorem xr {kd:Str→Option NameKind} {x:Str}:∀ {binds:List (Str×Value)} {m:Str→Option Value},x∉binds.map (·.1)→bindL kd binds m x=m x:=by
 intro zz
 induction zz with
 | nil =>
  intro _ _
  exact rfl
 | cons yy r ih =>
  obtain ⟨n,u⟩:=yy
  intro m h
  rw [List.map_cons,List.mem_cons,not_or] at h
  show bindL kd r _ x=_
  rw [ih h.2]
  split
  ·exact if_neg h.1
  ·rfl
theorem xt {kd:Str→Option NameKind} {x:Str}:∀ {binds:List (Str×Value)} {m:Str→Option Value},x∉binds.map (·.1)→bindC kd binds m x=m x:=by
 intro zz
 induction zz with
 | nil =>
  intro _ _
  exact rfl
 | cons yy r ih =>
  obtain ⟨n,u⟩:=yy
  intro m h
  rw [List.map_cons,List.mem_cons,not_or] at h
  show bindC kd r _ x=_
  rw [ih h.2]
  split
  ·rfl
  ·exact if_neg h.1
theorem sf {kd:Str→Option NameKind} {x:Str} {v:Value}:∀ {binds:List (Str×Value)} {m:Str→Option Value},(binds.map (·.1)).Nodup→(x,v)∈binds →
  (kd x=some .local→bindL kd binds m x=some v)∧(kd x≠some .local→bindC kd binds m x=some v):=by
 intro zz
 induction zz with
 | nil=>exact nofun
 | cons yy r ih =>
  obtain ⟨n,u⟩:=yy
  intro m hn hm
  rw [List.map_cons,List.nodup_cons] at hn
  rcases cnX hm with e | hm
  ·cases e
   refine ⟨fun hk=>?_,fun hk=>?_⟩
   ·show bindL kd r _ x=_
    rw [xr hn.1,if_pos hk,if_pos rfl]
   ·show bindC kd r _ x=_
    rw [xt hn.1,if_neg hk,if_pos rfl]
  ·exact ⟨fun hk=>(ih hn.2 hm).1 hk,fun hk=>(ih hn.2 hm).2 hk⟩
noncomputable def inS (x:Str):List (Str×Value)→Bool
 | []=>false
 | p::r=>(match sEq p.1 x with | true=>true | false=>inS x r)
noncomputable def apart:List (Str×Value)→Bool
 | []=>true
 | p::r=>(match inS p.1 r with | true=>false | false=>apart r)
theorem Dv {x:Str}:∀ {l:List (Str×Value)},inS x l=false→x∉l.map (·.1):=by
 intro zz
 induction zz with
 | nil =>
  intro _
  exact List.not_mem_nil
 | cons p r ih =>
  intro h
  have h:(match sEq p.1 x with | true=>true | false=>inS x r)=false:=h
  cases e:sEq p.1 x with
  | true=>rw [e] at h;exact kE h
  | false =>
   rw [e] at h
   rw [List.map_cons,List.mem_cons,not_or]
   exact ⟨fun q=>(by rw [q,dh] at e;exact kE e),ih h⟩
theorem gM:∀ {l:List (Str×Value)},apart l=true→(l.map (·.1)).Nodup:=by
 intro zz
 induction zz with
 | nil =>
  intro _
  exact List.nodup_nil
 | cons p r ih =>
  intro h
  have h:(match inS p.1 r with | true=>false | false=>apart r)=true:=h
  cases e:inS p.1 r with
  | true=>rw [e] at h;exact bA h
  | false=>rw [e] at h;rw [List.map_cons,List.nodup_cons];exact ⟨Dv e,ih h⟩
noncomputable abbrev pm0 (binds:List (Str×Value)):PM:=binds.map fun y=>(y.1,.v y.2)
theorem kL {x:Str} {pv:PV}:∀ {binds:List (Str×Value)},look (pm0 binds) x=some pv→∃ v,pv=.v v∧(x,v)∈binds:=by
 intro zz
 induction zz with
 | nil=>exact nofun
 | cons p r ih =>
  intro h
  have h:(match sEq p.1 x with | true=>some (PV.v p.2) | false=>look (pm0 r) x)=some pv:=h
  cases e:sEq p.1 x with
  | true=>rw [e] at h;cases h;rw [← dm e];exact ⟨_,rfl,.head _⟩
  | false=>rw [e] at h;obtain ⟨v,h1,h2⟩:=ih h;exact ⟨v,h1,.tail _ h2⟩
noncomputable def ox (sc:Scope):List (Str×Value)→Bool
 | []=>true
 | p::r=>(match q6 sc p.1 with | true=>ox sc r | false=>false)
theorem fh {sc:Scope}:∀ {l:List (Str×Value)},ox sc l=true→∀ p∈l,q6 sc p.1=true:=by
 intro zz
 induction zz with
 | nil=>exact nofun
 | cons p r ih =>
  intro h q hq
  have h:(match q6 sc p.1 with | true=>ox sc r | false=>false)=true:=h
  cases e:q6 sc p.1 with
  | true=>rw [e] at h;rcases cnX hq with rfl | hq;exact e;exact ih h q hq
  | false=>rw [e] at h;exact bA h
theorem dJ {sc:Scope} {x:Str} (h:q6 sc x=true):(sc.names.lookup x=some .local∨sc.names.lookup x=some .cell)∧(x==("__debug__":Str))=false:=by
 unfold q6 at h
 split at h
 ·exact ⟨.inl (bB ‹_›),dI h⟩
 ·exact ⟨.inr (bB ‹_›),dI h⟩
 ·exact bA h
noncomputable def fT:List (Str×NameKind)→Bool
 | []=>true
 | p::r=>(match lkK r p.1 with | some _=>false | none=>fT r)
theorem AK {x:Str}:∀ {l:List (Str×NameKind)},lkK l x=none→x∉l.map (·.1):=by
 intro zz
 induction zz with
 | nil =>
  intro _
  exact List.not_mem_nil
 | cons p r ih =>
  intro h
  have h:(match sEq p.1 x with | true=>some p.2 | false=>lkK r x)=none:=h
  cases e:sEq p.1 x with
  | true=>rw [e] at h;cases h
  | false =>
   rw [e] at h
   rw [List.map_cons,List.mem_cons,not_or]
   exact ⟨fun q=>(by rw [q,dh] at e;exact kE e),ih h⟩
theorem fU:∀ {l:List (Str×NameKind)},fT l=true→(l.map (·.1)).Nodup:=by
 intro zz
 induction zz with
 | nil =>
  intro _
  exact List.nodup_nil
 | cons p r ih =>
  intro h
  have h:(match lkK r p.1 with | some _=>false | none=>fT r)=true:=h
  cases e:lkK r p.1 with
  | some _=>rw [e] at h;exact bA h
  | none=>rw [e] at h;rw [List.map_cons,List.nodup_cons];exact ⟨AK e,ih h⟩
theorem dn:∀ {l:List (Str×NameKind)} {n:Nat} {acc:List (Str×Addr)},(l.map (·.1)).Nodup→(acc.map (·.1)).Nodup→(∀ x∈l.map (·.1),x∉acc.map (·.1))→((cellsFrom n l acc).map (·.1)).Nodup:=by
 intro zz
 induction zz with
 | nil =>
  intro _ _ _ h _
  exact h
 | cons yy r ih =>
  obtain ⟨y,kd⟩:=yy
  intro n acc h1 h2 h3
  rw [List.map_cons,List.nodup_cons] at h1
  unfold cellsFrom
  cases kd==.cell
  ·exact ih h1.2 h2 fun x hx=>h3 x (.tail _ hx)
  ·refine ih h1.2 (by rw [List.map_cons,List.nodup_cons];exact ⟨h3 y (.head _),h2⟩) fun x hx hq=>?_
   rw [List.map_cons,List.mem_cons] at hq
   rcases hq with rfl | hq
   ·exact h1.1 hx
   ·exact h3 x (.tail _ hx) hq
abbrev lG (G:Heap→Prop) (w:World) (f:Value) (pos:List Value) (kw:List (Str×Value)) (D:Nat) (news:Led) (Post:Value→Led→Prop):Prop :=
 ∀ {p : Program} {loose : List Str} {mean : ExcName → Option Value} {mg mb : Str → Option Value} {dp un : Nat} {gd : Option (List Code)} {cn : Str} {nm : List (Str × NameKind)} {b1 b2 : Bool} {mr : List (Str × Const)} {a : Addr} {ccd : Value} {cl : List (Str × Addr)} {outer : List Env} {A₀ : Around} {base h₀ : Heap} {L : Addr} {m : Str → Option Value} {s : Shared} {Q E : Value → Shared → Prop},
  G h₀→Below A₀ base outer h₀→Fr h₀ L s.heap m→(K w.params).In h₀→News h₀ L s.heap news→Top p loose mean mg mb h₀→dp + D < recursionLimit→un + 8 * D < cLine →
  (∀ v news' h' tk',Post v news'→Fr h₀ L h' m→News h₀ L h' news'→Q v { s with heap:=h',toks:=tk' }) →
  wpAny (model PySem.Challenge.rw_tc0096_01.prog w) (ktrTop dp un gd cn ⟨.function,nm,b1,b2,mr⟩ L a ccd cl outer) (call f pos kw) Q E s
theorem AL (G:Heap→Prop) (hG:∀ h g:Heap,(∀ b o,h.get? b=some o→g.get? b=some o)→G h→G g) {w:World} {f:Addr} {vals:List Value} {kw:List (Str×Value)} {D:Nat} {news:Led} {Post:Value→Led→Prop} {name qual:Str} {params:Arguments} {body:List Stmt} {scope:Scope} {dV kV doc pm cdv ct oc:Value} {an od:Option Addr} {osl:Array (Option Value)} (binds:List (Str×Value))
  (ho:(K w.params).lookup f=some ⟨oc,od,.func (fnOf name qual params body scope dV kV doc pm an cdv ct),osl⟩) (hcd:codeIn (K w.params) cdv qual=true)
  (hbind:∀ s:Shared,(K w.params).In s.heap→BindsTo s (fnOf name qual params body scope dV kV doc pm an cdv ct) ⟨vals,kw⟩ binds)
  (hb:(ox scope binds && apart binds && fT scope.names && !scope.isCoroutine && !scope.isGenerator)=true) (hk:scope.kind=.function)
  (h:∀ C:Cx,C.Ok w scope D→G C.h₀→(∀ p∈news,p.1 < C.L)→C.cl=cellsFrom (C.L + 1) scope.names []→C.cn=qual∧C.ccd=cdv→∀ Q:KF,(∀ v pm nx,(∀ y,v.Is y→Post y nx)→Q (.ret v) pm nx)→(∀ pm nx,Post .none nx→Q .next pm nx)→(∀ f pm nx nx0,(∀ p∈nx0,p∈nx)→Q f pm nx0→Q f pm nx)→GoF (C.fm w scope) (execs body (C.fm w scope).env) (pm0 binds) news Q) :
  lG G w (.ref f) vals kw (D + 1) news Post:=by
 intro p loose mean mg mb dp un gd cn nm b1 b2 mr a ccd cl outer A₀ base h₀ L m s Q E hGh B F X N T hd hu hret
 simp only [Bool.and_eq_true,Bool.not_eq_true'] at hb
 obtain ⟨⟨⟨⟨hst,hap⟩,hns⟩,hco⟩,hgen⟩:=hb
 have hnd:=fU hns
 have cn0:∀ n,((cellsFrom n scope.names []).map (·.1)).Nodup:=fun n=>dn hnd List.nodup_nil fun x _=>List.not_mem_nil
 refine wpAny_call (code_defC (binds:=binds) B F X N T rfl rfl rfl ho hcd (by show dp < _;lia) (hbind s (X.keeps F.keep)) ?_ (cn0 0) ?_ hco hgen hk)
 ·rw [List.all_eq_true]
  intro y hy
  rcases (dJ (fh hst y hy)).1 with e | e <;> rw [e] <;> rfl
 ·intro g L' h₁ tk cells FG F' N' Y B' X' T' lN
  have ca:=dT (m:=L' + 1) scope.names (L' + 1) [] (Nat.le_refl _) List.nodup_nil (fun p hp=>nomatch hp)
  refine wpAny_noRaise ?_
  suffices main:wpAny (model PySem.Challenge.rw_tc0096_01.prog w) (ktrTop (dp + 1) (un + 3) gd qual scope L' f cdv (cellsFrom (L' + 1) scope.names []) (envX cn ⟨.function,nm,b1,b2,mr⟩ L a ccd cl::outer)) (execs body (envOfC qual scope L' f cdv)) (fun fl s'=>LeaveK h₀ L m g (fun r s'=>match r with | .ok (.ret v)=>Q v s' | .ok _=>False | .error e=>E e s') (match fl with | .ret v=>v | _=>.none) s') NoE { s with heap:=h₁,toks:=tk } from main
  let C:Cx:=⟨dp + 1,un + 3,gd,qual,L',f,cdv,cellsFrom (L' + 1) scope.names [],envX cn ⟨.function,nm,b1,b2,mr⟩ L a ccd cl::outer,ktrTop dp un gd cn ⟨.function,nm,b1,b2,mr⟩ L a ccd cl outer,base,g,s,p,loose,mean,mg,mb⟩
  have ok:C.Ok w scope D:=⟨B',X',T',hk,by show dp + 1 + D < _;lia,by show un + 3 + 8 * D < _;lia,cn0 _,ca.1,fun x hx=>?_⟩
  ·refine (h C ok (hG _ _ FG.keep hGh) lN rfl ⟨rfl,rfl⟩ (fun f _ nx=>∃ nx0,(∀ p∈nx0,p∈nx)∧match f with | .ret v=>∀ y,v.Is y→Post y nx0 | .next=>Post .none nx0 | _=>False) (fun _ _ nx h=>⟨nx,fun _ h=>h,h⟩) (fun _ nx h=>⟨nx,fun _ h=>h,h⟩) fun _ _ _ _ hs ⟨nx0,h1,h2⟩=>⟨nx0,fun p hp=>hs p (h1 p hp),h2⟩) _ _ ⟨_,_,cells,F',N',Y,fun p hp q hq=>?_,fun x pv hl=>?_,h₁,tk,rfl⟩ ?_
   ·have h1:p.1∈cells.map (·.1):=List.mem_map_of_mem hp
    rw [fP Y] at h1
    obtain ⟨z,hz,e⟩:=List.mem_map.mp h1
    have h2:=ca.2 z hz
    have h3:=lN q hq
    rw [e] at h2
    exact Nat.ne_of_gt (Nat.lt_of_lt_of_le h3 (Nat.le_of_succ_le h2))
   ·obtain ⟨v,rfl,hm⟩:=kL hl
    obtain ⟨hkd,hdb⟩:=dJ (fh hst _ hm)
    have hg:=sf (kd:=(envOfC qual scope L' f cdv).kindOf) (m:=fun _=>none) (gM hap) hm
    rcases hkd with e | e
    ·exact .loc v hdb rfl e (hg.1 e)
    ·refine (Option.isSome_iff_exists.mp (cellsFrom_some _ _ _ (.inl e))).elim fun c hc=>.cel v c hdb rfl (.inl e) hc (hg.2 fun q=>?_)
     ·have:some NameKind.cell=some NameKind.local:=e.symm.trans q
      cases this
   ·rintro fv fl pm' nx' s' hq hfl ⟨m',cm,os,F2,N2,Y2,ap2,ft2,h2,k2,rfl⟩
    obtain ⟨nx0,hn0,hq⟩:=hq
    refine leaveK_ F2 (News.of N2 fun p hp=>apR (hn0 p hp)) fun F3 N3=>?_
    cases fv with
    | ret pv=>obtain ⟨y,rfl,hy⟩:=hfl;exact hret _ _ _ _ (hq y hy) F3 N3
    | next=>obtain rfl:=hfl;exact hret _ _ _ _ hq F3 N3
    | brk=>exact hq.elim
    | cont=>exact hq.elim
  ·exact Option.isSome_iff_exists.mp (cellsFrom_some _ _ _ (.inl hx))
theorem enterX {w:World} {f:Addr} {vals:List Value} {kw:List (Str×Value)} {D:Nat} {news:Led} {Post:Value→Led→Prop} {name qual:Str} {params:Arguments} {body:List Stmt} {scope:Scope} {dV kV doc pm cdv ct oc:Value} {an od:Option Addr} {osl:Array (Option Value)} (binds:List (Str×Value))
  (ho:(K w.params).lookup f=some ⟨oc,od,.func (fnOf name qual params body scope dV kV doc pm an cdv ct),osl⟩) (hcd:codeIn (K w.params) cdv qual=true)
  (hbind:∀ s:Shared,(K w.params).In s.heap→BindsTo s (fnOf name qual params body scope dV kV doc pm an cdv ct) ⟨vals,kw⟩ binds)
  (hb:(ox scope binds && apart binds && fT scope.names && !scope.isCoroutine && !scope.isGenerator)=true) (hk:scope.kind=.function)
  (h:∀ C:Cx,C.Ok w scope D→(∀ p∈news,p.1 < C.L)→C.cl=cellsFrom (C.L + 1) scope.names []→C.cn=qual∧C.ccd=cdv→∀ Q:KF,(∀ v pm nx,(∀ y,v.Is y→Post y nx)→Q (.ret v) pm nx)→(∀ pm nx,Post .none nx→Q .next pm nx)→(∀ f pm nx nx0,(∀ p∈nx0,p∈nx)→Q f pm nx0→Q f pm nx)→GoF (C.fm w scope) (execs body (C.fm w scope).env) (pm0 binds) news Q) :
  ah w (.ref f) vals kw (D + 1) news Post:=by
 intro p loose mean mg mb dp un gd cn nm b1 b2 mr a ccd cl outer A₀ base h₀ L m s Q E
 exact AL (fun _=>True) (fun _ _ _ _=>trivial) binds ho hcd hbind hb hk (fun C a _ b c n Q d e f=>h C a b c n Q d e f) trivial
theorem GF {w:World} {f:Addr} {vals:List Value} {kw:List (Str×Value)} {D:Nat} {news:Led} {Post:Value→Led→Prop} {name qual:Str} {params:Arguments} {body:List Stmt} {scope:Scope} {dV kV doc pm cdv ct oc:Value} {an od:Option Addr} {osl:Array (Option Value)} (binds:List (Str×Value))
  (ho:(K w.params).lookup f=some ⟨oc,od,.func (fnOf name qual params body scope dV kV doc pm an cdv ct),osl⟩) (hcd:codeIn (K w.params) cdv qual=true)
  (hbind:∀ s:Shared,(K w.params).In s.heap→BindsTo s (fnOf name qual params body scope dV kV doc pm an cdv ct) ⟨vals,kw⟩ binds)
  (hb:(ox scope binds && apart binds && fT scope.names && !scope.isCoroutine && !scope.isGenerator)=true) (hk:scope.kind=.function)
  (h:∀ C:Cx,C.Ok w scope D→(∀ p∈news,p.1 < C.L)→C.cl=cellsFrom (C.L + 1) scope.names []→∀ Q:KF,(∀ v pm nx,(∀ y,v.Is y→Post y nx)→Q (.ret v) pm nx)→(∀ pm nx,Post .none nx→Q .next pm nx)→(∀ f pm nx nx0,(∀ p∈nx0,p∈nx)→Q f pm nx0→Q f pm nx)→GoF (C.fm w scope) (execs body (C.fm w scope).env) (pm0 binds) news Q) :
  ah w (.ref f) vals kw (D + 1) news Post :=
 enterX binds ho hcd hbind hb hk fun C a b c _ Q d e f=>h C a b c Q d e f
theorem enterQ {w:World} {f:Addr} {vals:List Value} {kw:List (Str×Value)} {D:Nat} {news:Led} {Post:Value→Led→Prop} {name qual:Str} {params:Arguments} {body:List Stmt} {scope:Scope} {dV kV doc pm cdv ct oc:Value} {an od:Option Addr} {osl:Array (Option Value)} (binds:List (Str×Value))
  (ho:(K w.params).lookup f=some ⟨oc,od,.func (fnOf name qual params body scope dV kV doc pm an cdv ct),osl⟩) (hcd:codeIn (K w.params) cdv qual=true)
  (hbind:∀ s:Shared,(K w.params).In s.heap→BindsTo s (fnOf name qual params body scope dV kV doc pm an cdv ct) ⟨vals,kw⟩ binds)
  (hb:(ox scope binds && apart binds && fT scope.names && !scope.isCoroutine && !scope.isGenerator)=true) (hk:scope.kind=.function)
  (h:∀ C:Cx,C.Ok w scope D→(∀ p∈news,p.1 < C.L)→C.cl=cellsFrom (C.L + 1) scope.names []→C.cn=qual∧C.ccd=cdv→∀ Q:KF,(∀ v pm nx,(∀ y,v.Is y→Post y nx)→Q (.ret v) pm nx)→(∀ pm nx,Post .none nx→Q .next pm nx)→(∀ f pm nx nx0,(∀ p∈nx0,p∈nx)→Q f pm nx0→Q f pm nx)→SS (C.fm w scope) body (pm0 binds) news Q) :
  ah w (.ref f) vals kw (D + 1) news Post :=
 enterX binds ho hcd hbind hb hk fun C a b c n Q d e f=>iO (Cx.fmOk a) _ _ _ _ (h C a b c n Q d e f)
theorem enter {w:World} {f:Addr} {vals:List Value} {kw:List (Str×Value)} {D:Nat} {news:Led} {Post:Value→Led→Prop} {name qual:Str} {params:Arguments} {body:List Stmt} {scope:Scope} {dV kV doc pm cdv ct oc:Value} {an od:Option Addr} {osl:Array (Option Value)} (binds:List (Str×Value))
  (ho:(K w.params).lookup f=some ⟨oc,od,.func (fnOf name qual params body scope dV kV doc pm an cdv ct),osl⟩) (hcd:codeIn (K w.params) cdv qual=true)
  (hbind:∀ s:Shared,(K w.params).In s.heap→BindsTo s (fnOf name qual params body scope dV kV doc pm an cdv ct) ⟨vals,kw⟩ binds)
  (hb:(ox scope binds && apart binds && fT scope.names && !scope.isCoroutine && !scope.isGenerator)=true) (hk:scope.kind=.function)
  (h:∀ C:Cx,C.Ok w scope D→(∀ p∈news,p.1 < C.L)→C.cl=cellsFrom (C.L + 1) scope.names []→∀ Q:KF,(∀ v pm nx,(∀ y,v.Is y→Post y nx)→Q (.ret v) pm nx)→(∀ pm nx,Post .none nx→Q .next pm nx)→(∀ f pm nx nx0,(∀ p∈nx0,p∈nx)→Q f pm nx0→Q f pm nx)→SS (C.fm w scope) body (pm0 binds) news Q) :
  ah w (.ref f) vals kw (D + 1) news Post :=
 GF binds ho hcd hbind hb hk fun C a b c Q d e f=>iO (Cx.fmOk a) _ _ _ _ (h C a b c Q d e f)
end Mine
end
section
namespace Mine
section
variable {F:Fm} {pm:PM} {nx:Led}
theorem tR (ok:F.Ok) {vs:List PV} {Q:KV} (hz:vs.length≤1000) (h:∀ D xs,AllIs vs xs→(∀ p∈nx,p.1 < D)→Q (.v (.ref D)) pm ((D,({ cls:=.type "tuple",data:=.seq xs.toArray }:Obj))::nx)):Dk F vs pm nx Q:=by
 intro xs hx s P hR hP
 have hl:xs.length=vs.length:=by
  clear h hR hP hz
  induction hx with
  | nil=>rfl
  | cons _ _ ih=>rw [List.length_cons,List.length_cons,ih]
 have:=ok.alloc (o:={ cls:=.type "tuple",data:=.seq xs.toArray }) rfl hR
 refine wpAny_newObj_type (hP _ _ _ _ _ (h _ xs hx this.2) rfl this.1) ?_
 show xs.toArray.size≤sizeLine
 rw [List.size_toArray,hl]
 exact Nat.le_trans hz (aD rfl)
theorem bj (ok:F.Ok) {vs:List PV} {Q:KV} (hz:vs.length≤1000) (h:∀ D xs,AllIs vs xs→(∀ p∈nx,p.1 < D)→Q (.v (.ref D)) pm ((D,W.listOf xs.toArray 0)::nx)):IM F vs pm nx Q:=by
 intro xs hx s P hR hP
 have hl:xs.length=vs.length:=by
  clear h hR hP hz
  induction hx with
  | nil=>rfl
  | cons _ _ ih=>rw [List.length_cons,List.length_cons,ih]
 have:=ok.alloc (o:=W.listOf xs.toArray 0) rfl hR
 refine wpAny_newObj_type (hP _ _ _ _ _ (h _ xs hx this.2) rfl this.1) ?_
 show xs.toArray.size≤sizeLine
 rw [List.size_toArray,hl]
 exact Nat.le_trans hz (aD rfl)
inductive I5 (p:PV):List Value→Prop
 | mk (x:Value):p.Is x→I5 p [x]
theorem AllIs.one {p:PV} {xs:List Value} (h:AllIs [p] xs):I5 p xs:=by
 cases h with | cons h1 h2=>cases h2;exact ⟨_,h1⟩
inductive I6 (p q:PV):List Value→Prop
 | mk (x y:Value):p.Is x→q.Is y→I6 p q [x,y]
theorem AllIs.two {p q:PV} {xs:List Value} (h:AllIs [p,q] xs):I6 p q xs:=by
 cases h with | cons h1 h2=>obtain ⟨y,h3⟩:=AllIs.one h2;exact ⟨_,y,h1,h3⟩
inductive I7 (p q r:PV):List Value→Prop
 | mk (x y z:Value):p.Is x→q.Is y→r.Is z→I7 p q r [x,y,z]
theorem AllIs.three {p q r:PV} {xs:List Value} (h:AllIs [p,q,r] xs):I7 p q r xs:=by
 cases h with | cons h1 h2=>obtain ⟨y,z,a,b⟩:=AllIs.two h2;exact ⟨_,y,z,h1,a,b⟩
inductive I8 (p q r s:PV):List Value→Prop
 | mk (x y z u:Value):p.Is x→q.Is y→r.Is z→s.Is u→I8 p q r s [x,y,z,u]
theorem AllIs.four {p q r s:PV} {xs:List Value} (h:AllIs [p,q,r,s] xs):I8 p q r s xs:=by
 cases h with | cons h1 h2=>obtain ⟨y,z,u,a,b,c⟩:=AllIs.three h2;exact ⟨_,y,z,u,h1,a,b,c⟩
theorem AllIs.length {ps:List PV} {xs:List Value} (h:AllIs ps xs):xs.length=ps.length:=by
 induction h with
 | nil=>rfl
 | cons _ _ ih=>rw [List.length_cons,List.length_cons,ih]
theorem dB {f:Value} {a:PV} {Q:KV} (h:∀ x,a.Is x→GoV F (call f [x]) pm nx Q):aI F f [a] pm nx Q:=by
 intro xs hx
 obtain ⟨x,h1⟩:=AllIs.one hx;exact h _ h1
theorem call2 {f:Value} {a b:PV} {Q:KV} (h:∀ x y,a.Is x→b.Is y→GoV F (call f [x,y]) pm nx Q):aI F f [a,b] pm nx Q:=by
 intro xs hx
 obtain ⟨x,y,h1,h2⟩:=AllIs.two hx;exact h _ _ h1 h2
theorem gN {f:Value} {a b c:PV} {Q:KV} (h:∀ x y z,a.Is x→b.Is y→c.Is z→GoV F (call f [x,y,z]) pm nx Q):aI F f [a,b,c] pm nx Q:=by
 intro xs hx
 obtain ⟨x,y,z,h1,h2,h3⟩:=AllIs.three hx;exact h _ _ _ h1 h2 h3
theorem q7 (ok:F.Ok) {a:PV} {x:UInt64} {Q:KV} (ha:asF a=some x) (h1:Float64.isNaN x=false) (h2:Float64.isInf x=false) (h:Q (.i (Flt.toInt Float64.truncOf x)) pm nx):aI F (.type "int") [a] pm nx Q:=by
 refine dB fun u hu s P hR hP=>?_
 obtain ⟨t,rfl⟩:=a6 ha hu
 exact Flt.call_int_float3 ok.handled (fun e=>by rw [h1] at e;exact bA e) (fun e=>by rw [h2] at e;exact bA e) fun _=>hP _ _ _ _ _ h ⟨_,rfl⟩ (ok.toks _ hR)
end
section
variable {C:Cx} {w:World} {sc:Scope} {pm:PM} {nx:Led}
theorem vX {a b c:PV} {x y z:UInt64} {Q:KV} (ha:asF a=some x) (hb:asF b=some y) (hc:asF c=some z) (h:Q (.f (aK x y z)) pm nx):aI (C.fm w sc) (.builtin "max") [a,b,c] pm nx Q:=by
 refine gN fun u1 u2 u3 h1 h2 h3 s P hR hP=>?_
 obtain ⟨t1,rfl⟩:=a6 ha h1
 obtain ⟨t2,rfl⟩:=a6 hb h2
 obtain ⟨t3,rfl⟩:=a6 hc h3
 exact Cx.R.open hR fun m os F N ap mk=>r7 rfl F N fun h' tk' t' F' N'=>hP _ _ _ _ _ h ⟨_,rfl⟩ (mk _ _ _ F' N' ap)
theorem vY {a b c:PV} {x y z:UInt64} {Q:KV} (ha:asF a=some x) (hb:asF b=some y) (hc:asF c=some z) (h:Q (.f (aU x y z)) pm nx):aI (C.fm w sc) (.builtin "min") [a,b,c] pm nx Q:=by
 refine gN fun u1 u2 u3 h1 h2 h3 s P hR hP=>?_
 obtain ⟨t1,rfl⟩:=a6 ha h1
 obtain ⟨t2,rfl⟩:=a6 hb h2
 obtain ⟨t3,rfl⟩:=a6 hc h3
 exact Cx.R.open hR fun m os F N ap mk=>r8 rfl F N fun h' tk' t' F' N'=>hP _ _ _ _ _ h ⟨_,rfl⟩ (mk _ _ _ F' N' ap)
end
end Mine
end
section
namespace Mine
section
variable {C:Cx} {w:World} {sc:Scope} {pm:PM} {nx:Led} {D:Nat}
inductive FE (sc:Scope):Prop
 | mk (nm:List (Str×NameKind)) (b1 b2:Bool) (mr:List (Str×Const)):sc=⟨.function,nm,b1,b2,mr⟩→FE sc
theorem q8 {sc:Scope} (h:sc.kind=.function):FE sc:=by
 cases sc;obtain rfl:=h;exact ⟨_,_,_,_,rfl⟩
inductive I9 (os:Led) (pm:PM) (Q:KV) (v:Value) (nx':Led):Prop
 | mk (pv:PV) (nx2:Led):pv.Is v→(∀ p∈os++nx2,p∈nx')→(∀ p∈os,∀ q∈nx2,p.1≠q.1)→Q pv pm nx2→I9 os pm Q v nx'
inductive Dw (w:World) (f:Value) (xs:List Value) (kw:List (Str×Value)) (d:Nat) (os:Led) (pm:PM) (nx:Led) (Q:KV):Prop
 | mk (X:Led) (Post:Value→Led→Prop):(∀ p∈X,p∈os++nx)→ah w f xs kw d X Post→(∀ v nx',Post v nx'→I9 os pm Q v nx')→Dw w f xs kw d os pm nx Q
theorem Fm.Ok.useC {F:Fm} (ok:F.Ok) (hC:F.C.Ok F.w F.sc D) {f:Value} {xs:List Value} {kw:List (Str×Value)} {d:Nat} {Q:KV} (hd:d≤D)
  (h:∀ os:Led,(∀ p∈os,∀ q∈nx,p.1≠q.1)→F.CellIn pm os→Dw F.w f xs kw d os pm nx Q):GoV F (call f xs kw) pm nx Q:=by
 obtain ⟨nm,b1,b2,mr,esc⟩:=q8 hC.kind
 intro s P hR hP
 obtain ⟨m,os,Fr',N,ap,hcl,mk⟩:=ok.opc hR
 obtain ⟨X,Post,hX,hs,hq⟩:=h os ap hcl
 rw [ok.hA,esc]
 refine hs hC.B Fr' hC.X (News.of N hX) hC.T (by have:=hC.dp;lia) (by have:=hC.un;lia) fun v nx' h' tk' hp F' N'=>?_
 obtain ⟨pv,nx2,h1,h2,h3,h4⟩:=hq v nx' hp
 exact hP _ _ _ _ _ h4 h1 (mk _ _ _ F' (News.of N' h2) h3)
theorem Fm.Ok.use {F:Fm} (ok:F.Ok) (hC:F.C.Ok F.w F.sc D) {f:Value} {xs:List Value} {kw:List (Str×Value)} {d:Nat} {Q:KV} (hd:d≤D)
  (h:∀ os:Led,(∀ p∈os,∀ q∈nx,p.1≠q.1)→Dw F.w f xs kw d os pm nx Q):GoV F (call f xs kw) pm nx Q :=
 ok.useC hC hd fun os ap _=>h os ap
theorem Cx.Ok.use (ok:C.Ok w sc D) {f:Value} {xs:List Value} {kw:List (Str×Value)} {d:Nat} {Q:KV} (hd:d≤D)
  (h:∀ os:Led,(∀ p∈os,∀ q∈nx,p.1≠q.1)→Dw w f xs kw d os pm nx Q):GoV (C.fm w sc) (call f xs kw) pm nx Q:=(Cx.fmOk ok).use ok hd h
theorem Fm.Ok.useR {F:Fm} (ok:F.Ok) (hC:F.C.Ok F.w F.sc D) {f:Value} {xs:List Value} {kw:List (Str×Value)} {d:Nat} {R:Tok→Value} {Q:KV} (pv:PV) (hd:d≤D)
  (h:∀ os:Led,ah F.w f xs kw d (os++nx) (fun v nx'=>nx'=os++nx∧∃ t,v=R t)) (hv:∀ t,pv.Is (R t)) (hq:Q pv pm nx):GoV F (call f xs kw) pm nx Q :=
 ok.use hC hd fun os ap=>⟨_,_,fun _ h=>h,h os,fun v nx' ⟨e1,t,e2⟩=>⟨pv,nx,e2▸hv t,fun p hp=>e1▸hp,ap,hq⟩⟩
theorem Cx.Ok.useR (ok:C.Ok w sc D) {f:Value} {xs:List Value} {kw:List (Str×Value)} {d:Nat} {R:Tok→Value} {Q:KV} (pv:PV) (hd:d≤D)
  (h:∀ os:Led,ah w f xs kw d (os++nx) (fun v nx'=>nx'=os++nx∧∃ t,v=R t)) (hv:∀ t,pv.Is (R t)) (hq:Q pv pm nx):GoV (C.fm w sc) (call f xs kw) pm nx Q:=(Cx.fmOk ok).useR ok pv hd h hv hq
theorem CellsAre.nil_os {cm:Str→Option Value} {os:Led} (h:CellsAre cm [] os):os=[]:=by cases h;rfl
theorem Cx.Ok.use0 (ok:C.Ok w sc D) (h0:C.cl=[]) {f:Value} {xs:List Value} {kw:List (Str×Value)} {d:Nat} {Post:Value→Led→Prop} {Q:KV} {X:Led} (hd:d≤D) (hX:∀ p∈X,p∈nx) (hs:ah w f xs kw d X Post)
  (hq:∀ v nx',Post v nx'→∃ pv,pv.Is v∧Q pv pm nx'):GoV (C.fm w sc) (call f xs kw) pm nx Q:=by
 obtain ⟨nm,b1,b2,mr,rfl⟩:=q8 ok.kind
 rintro s P ⟨m,cm,os,F,N,Y,ap,ft,h,tk,rfl⟩ hP
 rw [h0] at Y
 cases CellsAre.nil_os Y
 refine hs ok.B F ok.X (News.of N hX) ok.T (by have:=ok.dp;lia) (by have:=ok.un;lia) fun v nx' h' tk' hp F' N'=>?_
 obtain ⟨pv,h1,h2⟩:=hq v nx' hp
 exact hP _ _ _ _ _ h2 h1 ⟨m,cm,[],F',N',h0▸Y,(fun p hp=>nomatch hp),ft,h',tk',rfl⟩
theorem fV (ok:C.Ok w sc D) {a:Addr} {o:Obj} {fd:FuncData} {pos:Pos} {e:Expr} {es:List Expr} {Q:KV} (hm:(a,o)∈nx) (hd:o.data=.func fd) (h:bN (WW (C.fm w sc) 30).1 (e::es) pm nx fun vs pm' nx'=>(a,o)∈nx'∧aI (C.fm w sc) (.ref a) vs pm' nx' Q) :
  ∀ y,(PV.v (.ref a)).Is y→GoV (C.fm w sc) (callWith pos y [] (backTo pos (starEach (e::es) (C.fm w sc).env)) []) pm nx Q:=by
 intro y hy s P hR hP
 obtain rfl:=hy
 refine callWith_def (o:=o) hd (bS (ar (Cx.fmOk ok) 30).1 pos h hR fun vs as pm' nx' s' q hv hR'=>⟨?_,q.2 as hv s' _ hR' hP⟩) (aW (bh h) _ _)
 exact Cx.R.open hR' fun m os F N ap mk=>N.get (apR q.1)
end
section
variable {F:Fm} {pm:PM} {nx:Led}
theorem Fm.Ok.list (ok:F.Ok) {s:Shared} (hR:F.R pm nx s) {l:Addr} {vs:List Value} {n:Nat} (hm:(l,W.listOf vs.toArray n)∈nx):s.heap.IsList l vs.toArray:=⟨_,ok.mem hR hm,rfl,_,rfl⟩
theorem cN (ok:F.Ok) {l:Addr} {vs:List Value} {n k:Nat} {Q:KV} (hm:(l,W.listOf vs.toArray n)∈nx) (hk:vs.length=k) (hs:k < 2 ^ 62) (h:Q (.i (k:Int)) pm nx):aI F (.builtin "len") [.v (.ref l)] pm nx Q :=
 dB fun x hx s P hR hP=>by
  obtain rfl:=hx
  exact Gj (ok.list hR hm) hk hs (hP _ _ _ _ _ h ⟨_,rfl⟩ (ok.toks _ hR))
theorem aG (ok:F.Ok) {a i:Expr} {pi:PV} {l:Addr} {vs:List Value} {n:Nat} {k:Int} {Q:KV} (p:PV) (hm:(l,W.listOf vs.toArray n)∈nx) (hi:asI pi=some k) (h0:0≤k) (hk:k.toNat < vs.length) (hs:vs.length < 2 ^ 62) (hp:p.Is (vs.getD k.toNat .none)) (h:Q p pm nx) (hn:bO i=true:=by rfl) :
  ow F a i (.v (.ref l)) pi pm nx Q:=by
 intro x y hx hy s P hR hP
 obtain rfl:=hx
 obtain ⟨t,rfl⟩:=au hi hy
 refine C2 (ok.list hR hm) h0 (by lia) hk (hP _ _ _ _ _ h hp hR) ?_
 cases i <;> first | with_unfolding_all rfl | exact bA hn
end
end Mine
end
section
namespace Mine
theorem xu:∀ {ws:List (Addr×String)} {k:Led→Prop},(∀ its:Led,its.map (·.1)=ws.map (·.1)→k its)→AllObj ws k:=by
 intro zz
 induction zz with
 | nil =>
  intro k h
  exact h [] rfl
 | cons w r ih =>
  intro k h
  exact fun o _=>ih fun its e=>h ((w.1,o)::its) (by rw [List.map_cons,List.map_cons,e])
theorem vZ:∀ {a b:Led},(∀ p∈a,p∈b)→SubL a b
 | [],_,_=>trivial
 | p::r,b,h=>⟨h p (.head _),vZ fun q hq=>h q (.tail _ hq)⟩
def si (C:Cx) (w:World) (sc:Scope) (target:Expr) (body:List Stmt) (it:PV) (pm:PM) (nx:Led) (Q:KF):Prop :=
 ∀ v s (T : Flow → Shared → Prop), it.Is v → C.R sc pm nx s → (∀ f fl pm' nx' s', Q f pm' nx' → f.Is fl → C.R sc pm' nx' s' → T fl s') →
  wpAny (C.fm w sc).M (C.fm w sc).A (pyIter v) (fun itv s₂=>TurnsAt PySem.Challenge.rw_tc0096_01.prog w (C.fm w sc).A C.h₀ (C.fm w sc).env target body T NoE itv s₂) NoE s
abbrev Ja (C:Cx) (w:World) (sc:Scope) (target:Expr) (body:List Stmt) (Q:KF):KV:=fun it pm nx=>si C w sc target body it pm nx Q
abbrev kM (F:Fm) (body:List Stmt) (Q:KF):KU:=fun pm nx=>SS F body pm nx Q
section
variable {C:Cx} {w:World} {sc:Scope} {pm:PM} {nx:Led} {D:Nat}
noncomputable def q9:Expr→Bool
 | .Set ..=>false
 | _=>true
theorem iR (hC:C.Ok w sc D) {target iter:Expr} {body:List Stmt} {pos:Pos} {Q:KF} (h:(WW (C.fm w sc) 30).1 iter pm nx (Ja C w sc target body Q)) (hn:q9 iter=true:=by rfl):GoF (C.fm w sc) (exec (.For target iter body [] pos) (C.fm w sc).env) pm nx Q:=by
 intro s T hR hT
 refine Cx.R.open hR fun m os F N ap mk=>?_
 refine For_turns F ((ar (Cx.fmOk hC) 30).1 _ _ _ _ h s _ hR fun it v pm' nx' s' q hv hR'=>q v s' T hv hR' hT) (fun x=>?_) PassesOwn.never
 cases iter <;> first | rfl | exact bA hn
def Dx (C:Cx) (w:World) (sc:Scope) (target:Expr) (a:Itm) (pm:PM) (nx:Led) (Q:KU):Prop :=
 ∀ v s (P:Unit→Shared→Prop),a.Is v s.heap→C.R sc pm nx s→(∀ pm' nx' s',Q pm' nx'→C.R sc pm' nx' s'→P () s')→wpAny (C.fm w sc).M (C.fm w sc).A (assign target (C.fm w sc).env v) P NoE s
theorem AM (hC:C.Ok w sc D) {y:Str} {py:Pos} {a:Itm} {u:PV} {Q:KU} (hu:∀ v h,a.Is v h→u.Is v) (h:fS (C.fm w sc) y u pm nx Q):Dx C w sc (.Name y py) a pm nx Q :=
 fun v s P hv hR hP=>wpAny_assign_Name (c6 (Cx.fmOk hC) h v (hu v _ hv) _ _ hR fun _ _ pm1 nx1 s1 h1 _ hR1=>hP pm1 nx1 s1 h1 hR1)
def l8 {σ:Type} (P:σ→Prop) (ps:σ→PM) (led:σ→Led) (its:Led) (Q':KF):Prop:=∀ pm nx c',P c'→Sub (ps c') pm→(∀ p∈its++led c',p∈nx)→(∀ p∈led c',∀ q∈its,p.1≠q.1)→Q' .next pm nx
def sj (Q Q':KF):Prop:=∀ v pm nx,Q (.ret v) pm nx→Q' (.ret v) pm nx
inductive v5 (l:Led) (K:Led→Prop):Prop
 | mk (X:Led):(∀ p∈X,p∈l)→K X→v5 l K
inductive oX (I:PV→Prop) (l:Led) (K:PV→Led→Prop):Prop
 | mk (u:PV) (X:Led):I u→(∀ p∈X,p∈l)→K u X→oX I l K
inductive AN {σ:Type} (P:σ→Prop) (ps:σ→PM) (led:σ→Led) (its:Led) (pm:PM) (nx:Led):Prop
 | mk (c':σ):P c'→Sub (ps c') pm→(∀ p∈its++led c',p∈nx)→(∀ p∈led c',∀ q∈its,p.1≠q.1)→AN P ps led its pm nx
theorem Dy (hC:C.Ok w sc D) {σ:Type} (ps:σ→PM) (led:σ→Led) (P:Nat→σ→Prop) {xs:List Itm} {target:Expr} {body:List Stmt} {Q:KF} {s:Shared} {T:Flow→Shared→Prop} {ws:List (Addr×String)} {keep:Led}
  (hkeep:∀ i c,P i c→∀ p∈keep,p∈led c)
  (turn:∀ i c its,i < xs.length→P i c→its.map (·.1)=ws.map (·.1)→(∀ p∈led c,∀ q∈its,p.1≠q.1)→∀ Q':KF,l8 (P (i + 1)) ps led its Q'→sj Q Q'→v5 (its++led c) fun X=>∀ a,xs[i]?=some a→Dx C w sc target a (ps c) X (kM (C.fm w sc) body Q'))
  (done:∀ c,P xs.length c→Q .next (ps c) (led c)) (hs:∃ h k,s={ C.s with heap:=h,toks:=k })
  (hT:∀ f fl pm' nx' s',Q f pm' nx'→f.Is fl→C.R sc pm' nx' s'→T fl s') :
  ∀ (ys : List Itm) (i : Nat) m cm os c, xs.drop i = ys → i ≤ xs.length → P i c → CellsAre cm C.cl os → (∀ p ∈ os, ∀ q ∈ led c, p.1 ≠ q.1) →
   C.Ft sc (ps c) m cm→(∀ p∈os++led c,p.1∉ws.map (·.1)) →
   ItemsRest PySem.Challenge.rw_tc0096_01.prog w (C.fm w sc).A NoE C.h₀ (C.fm w sc).env target body T s ws keep ys m (os++led c):=by
 intro zz
 induction zz with
 | nil =>
  intro i m cm os c e hi hP Y ap ft off
  have:i=xs.length:=by
   have:=congrArg List.length e
   simp at this;lia
  subst this
  obtain ⟨h,k,rfl⟩:=hs
  exact ItemsRest.zero fun h tk F N=>hT _ _ _ _ _ (done c hP) rfl ⟨m,cm,os,F,N,Y,ap,ft,h,tk,rfl⟩
 | cons a ys ih =>
  intro i m cm os c e hi hP Y ap ft off
  have hlt:i < xs.length:=by
   have:=congrArg List.length e
   simp at this;lia
  have hget:xs[i]?=some a:=by
   have:=congrArg List.head? e
   rw [List.head?_drop] at this
   simpa using this
  have htl:xs.drop (i + 1)=ys:=by
   have:=congrArg List.tail e
   simpa [List.tail_drop] using this
  intro v h tk hv F
  refine xu fun its hits N=>?_
  have mem:∀ q∈its,q.1∈ws.map (·.1):=fun q hq=>hits▸List.mem_map_of_mem hq
  obtain ⟨X,hX,hb⟩:=turn i c its hlt hP hits (fun p hp q hq e=>off p (apR hp) (e▸mem q hq)) (fun f pm nx=>match f with
   | .next=>AN (P (i + 1)) ps led its pm nx
   | .ret v=>Q (.ret v) pm nx
   | _=>False) (fun _ _ c' h1 h2 h3 h4=>⟨c',h1,h2,h3,h4⟩) (fun _ _ _ h=>h)
  obtain ⟨h9,k9,e9⟩:=hs
  have hR:C.R sc (ps c) (its++led c) { s with heap:=h,toks:=tk }:=by
   refine ⟨m,cm,os,F,News.of N fun p hp=>?_,Y,fun p hp q hq=>?_,ft,h,tk,by rw [e9]⟩
   ·rcases apX hp with hp | hp
    ·exact apR (apL hp)
    ·rcases apX hp with hp | hp
     ·exact apL hp
     ·exact apR (apR hp)
   ·rcases apX hq with hq | hq
    ·exact fun e=>off p (apL hp) (e▸mem q hq)
    ·exact ap p hp q hq
  refine hb a hget v _ _ hv ((Cx.fmOk hC).led hR hX) fun pm1 nx1 s1 h1 hR1=>iO (Cx.fmOk hC) _ _ _ _ h1 s1 _ hR1 fun f fl pm2 nx2 s2 h2 hf hR2=>?_
  have fin:AN (P (i + 1)) ps led its pm2 nx2→UnrEndW C.h₀ (C.fm w sc).env.locals { s with heap:=h,toks:=tk } its (fun m' n'=>SubL keep n'∧ItemsRest PySem.Challenge.rw_tc0096_01.prog w (C.fm w sc).A NoE C.h₀ (C.fm w sc).env target body T s ws keep ys m' n') s2:=by
   rintro ⟨c',hP',hsub,hnx,hoff⟩
   obtain ⟨m',cm',os',F',N',Y',ap',ft',h',tk',rfl⟩:=(Cx.fmOk hC).sub hR2 hsub hnx
   have off':∀ p∈os'++led c',∀ q∈its,p.1≠q.1:=fun p hp q hq=>(apX hp).elim (fun hp=>ap' p hp q (apL hq)) fun hp=>hoff p hp q hq
   refine ⟨h',tk',m',os'++led c',by rw [e9],F',News.of N' fun p hp=>?_,off',vZ fun p hp=>apR (hkeep _ _ hP' p hp),ih (i + 1) m' cm' os' c' htl hlt hP' Y' (fun p hp q hq=>ap' p hp q (apR hq)) ft' fun p hp hw=>?_⟩
   ·rcases apX hp with hp | hp
    ·exact apR (apL hp)
    ·rcases apX hp with hp | hp
     ·exact apL hp
     ·exact apR (apR hp)
   ·rw [← hits] at hw
    obtain ⟨q,hq,e⟩:=List.mem_map.mp hw
    exact off' p hp q hq e.symm
  cases f with
  | next=>obtain rfl:=hf;exact fin h2
  | cont=>exact h2.elim
  | brk=>exact h2.elim
  | ret pv=>obtain ⟨x,rfl,hx⟩:=hf;exact hT _ _ _ _ _ h2 ⟨_,rfl,hx⟩ hR2
inductive AO (C:Cx) (w:World) (sc:Scope) (s:Shared) (l:Led) (target:Expr) (body:List Stmt) (T:Flow→Shared→Prop) (keep:Led) (xs:List Itm):Prop
 | mk (m:Str→Option Value) (os:Led):Fr C.h₀ C.L s.heap m→News C.h₀ C.L s.heap (os++l)→(∀ ws:List (Addr×String),(∀ p∈os++l,p.1∉ws.map (·.1))→ItemsRest PySem.Challenge.rw_tc0096_01.prog w (C.fm w sc).A NoE C.h₀ (C.fm w sc).env target body T s ws keep xs m (os++l))→AO C w sc s l target body T keep xs
theorem gO (hC:C.Ok w sc D) {σ:Type} (ps:σ→PM) (led:σ→Led) (P:Nat→σ→Prop) {xs:List Itm} {target:Expr} {body:List Stmt} {Q:KF} {s:Shared} {T:Flow→Shared→Prop} {keep:Led} (c₀:σ)
  (hkeep:∀ i c,P i c→∀ p∈keep,p∈led c) (h0:P 0 c₀∧Sub (ps c₀) pm∧∀ p∈led c₀,p∈nx)
  (turn:∀ i c its,i < xs.length→P i c→(∀ p∈led c,∀ q∈its,p.1≠q.1)→∀ Q':KF,l8 (P (i + 1)) ps led its Q'→sj Q Q'→v5 (its++led c) fun X=>∀ a,xs[i]?=some a→Dx C w sc target a (ps c) X (kM (C.fm w sc) body Q'))
  (done:∀ c,P xs.length c→Q .next (ps c) (led c)) (hR:C.R sc pm nx s)
  (hT:∀ f fl pm' nx' s',Q f pm' nx'→f.Is fl→C.R sc pm' nx' s'→T fl s') :
  AO C w sc s (led c₀) target body T keep xs:=by
 obtain ⟨m,cm,os,F,N,Y,ap,ft,h,tk,hs⟩:=(Cx.fmOk hC).sub hR h0.2.1 h0.2.2
 exact ⟨m,os,F,N,fun ws hw=>Dy hC ps led P hkeep (fun i c its a b _ d=>turn i c its a b d) done ⟨h,tk,hs⟩ hT xs 0 m cm os c₀ rfl (Nat.zero_le _) h0.1 Y ap ft hw⟩
theorem fW (hC:C.Ok w sc D) {σ:Type} (ps:σ→PM) (led:σ→Led) (P:Nat→σ→Prop) {xs:List Itm} {y:Str} {py:Pos} {body:List Stmt} {Q:KF} {s:Shared} {T:Flow→Shared→Prop} {keep:Led} (c₀:σ)
  (hkeep:∀ i c,P i c→∀ p∈keep,p∈led c) (h0:P 0 c₀∧Sub (ps c₀) pm∧∀ p∈led c₀,p∈nx)
  (turn:∀ i c its,i < xs.length→P i c→(∀ p∈led c,∀ q∈its,p.1≠q.1)→∀ Q':KF,l8 (P (i + 1)) ps led its Q'→sj Q Q'→oX (fun u=>∀ a v h,xs[i]?=some a→a.Is v h→u.Is v) (its++led c) fun u X=>fS (C.fm w sc) y u (ps c) X (kM (C.fm w sc) body Q'))
  (done:∀ c,P xs.length c→Q .next (ps c) (led c)) (hR:C.R sc pm nx s)
  (hT:∀ f fl pm' nx' s',Q f pm' nx'→f.Is fl→C.R sc pm' nx' s'→T fl s') :
  AO C w sc s (led c₀) (.Name y py) body T keep xs :=
 gO hC ps led P (target:=.Name y py) c₀ hkeep h0 (fun i c its a b d Q' e f=>by
  obtain ⟨u,X,hu,hX,hb⟩:=turn i c its a b d Q' e f
  exact ⟨X,hX,fun a ha=>AM hC (fun v h=>hu a v h ha) hb⟩) done hR hT
noncomputable abbrev oz (a b:Int) (t u v:Tok):Obj:={ cls:=.type "range",dict:=none,data:=.fields #[.int a t,.int b u,.int 1 v],slots:=#[] }
theorem cO {a:PV} {n:Int} {Q:KV} (ha:asI a=some n) (h:∀ r t u v,(∀ p∈nx,p.1 < r)→Q (.v (.ref r)) pm ((r,oz 0 n t u v)::nx)) (hC:C.Ok w sc D):aI (C.fm w sc) (.type "range") [a] pm nx Q:=by
 refine dB fun x hx s P hR hP=>?_
 obtain ⟨t,rfl⟩:=au ha hx
 refine call_range_1 ?_
 have al:=(Cx.fmOk hC).alloc (o:=oz 0 n s.toks t (s.toks + 1)) rfl hR
 exact hP _ _ _ _ _ (h _ _ _ _ al.2) rfl ((Cx.fmOk hC).toks _ al.1)
theorem Cx.R.get {s:Shared} (h:C.R sc pm nx s) {a:Addr} {o:Obj} (hm:(a,o)∈nx):s.heap.get? a=some o:=by
 obtain ⟨m,cm,os,F,N,_⟩:=h
 exact N.get (apR hm)
theorem Dz {os:Led} {I:Addr} {c:String} (h:∀ p∈os,p.1 < I):∀ p∈os,p.1∉[(I,c)].map (·.1):=fun p hp hm=>Nat.ne_of_lt (h p hp) (sgX hm)
theorem AP (a:Int) {n:Nat}:∀ (i:Nat) (x:Itm) (v:Value) (h:Heap),(bg a n)[i]?=some x→x.Is v h→(PV.i (a + (i:Int))).Is v:=by
 intro i x v h hx hv
 unfold bg at hx
 rw [List.getElem?_map] at hx
 cases e:(List.range n)[i]? with
 | none=>rw [e] at hx;exact aV hx
 | some j =>
  rw [e] at hx
  obtain ⟨hl,hj⟩:=List.getElem?_eq_some_iff.mp e
  rw [List.getElem_range] at hj
  subst hj
  cases hx
  exact hv
theorem iS (hC:C.Ok w sc D) {r:Addr} {a b:Int} {t u v:Tok} {n:Nat} {σ:Type} (ps:σ→PM) (led:σ→Led) (P:Nat→σ→Prop) (c₀:σ) {y:Str} {py:Pos} {body:List Stmt} {Q:KF} (hr:(r,oz a b t u v)∈nx) (hsm:Builtin.Range.small a b 1=true) (hn:Builtin.Range.rangeSize a b 1=(n:Int))
  (h0:P 0 c₀∧Sub (ps c₀) pm∧∀ p∈led c₀,p∈nx)
  (turn:∀ i c its,i < n→P i c→(∀ p∈led c,∀ q∈its,p.1≠q.1)→∀ Q':KF,l8 (P (i + 1)) ps led its Q'→sj Q Q'→oX (fun u=>∀ t,u.Is (.int (a + (i:Int)) t)) (its++led c) fun u X=>fS (C.fm w sc) y u (ps c) X (kM (C.fm w sc) body Q'))
  (done:∀ c,P n c→Q .next (ps c) (led c)):si C w sc (.Name y py) body (.v (.ref r)) pm nx Q:=by
 intro v s T hv hR hT
 obtain rfl:=hv
 have hlen:(bg a n).length=n:=by simp [bg]
 obtain ⟨m,os,F,N,hrest⟩:=fW hC ps led P (xs:=bg a n) (py:=py) (keep:=[]) c₀ (fun _ _ _ p hp=>nomatch hp) h0 (fun i c its hi e f Q' d k=>by
  obtain ⟨u,X,h1,h2,h3⟩:=turn i c its (hlen▸hi) e f Q' d k
  exact ⟨u,X,fun x v h hx hv=>(AP a i x v h hx hv).elim fun t e=>e▸h1 t,h2,h3⟩) (by rw [hlen];exact done) hR hT
 exact r6 rfl F N (hR.get hr) hsm hn fun I cls hI=>hrest _ (Dz hI)
theorem sign_is {x:Str}:∀ (i:Nat) (a:Itm) (v:Value) (h:Heap),(bE x)[i]?=some a→a.Is v h→(PV.s (one (x.cps.toList.getD i 0))).Is v:=by
 intro i a v h hx hv
 unfold bE at hx
 rw [List.getElem?_map] at hx
 cases e:x.cps.toList[i]? with
 | none=>rw [e] at hx;exact aV hx
 | some c =>
  rw [e] at hx
  cases hx
  rw [List.getD_eq_getElem?_getD,e]
  exact hv
theorem AQ (hC:C.Ok w sc D) {it:PV} {x:Str} {σ:Type} (ps:σ→PM) (led:σ→Led) (P:Nat→σ→Prop) (c₀:σ) {y:Str} {py:Pos} {body:List Stmt} {Q:KF} (hx:asS it=some x) {n:Nat} (hn:x.cps.toList.length=n)
  (h0:P 0 c₀∧Sub (ps c₀) pm∧∀ p∈led c₀,p∈nx)
  (turn:∀ i c its,i < n→P i c→(∀ p∈led c,∀ q∈its,p.1≠q.1)→∀ Q':KF,l8 (P (i + 1)) ps led its Q'→sj Q Q'→oX (fun u=>∀ t,u.Is (.str (one (x.cps.toList.getD i 0)) t)) (its++led c) fun u X=>fS (C.fm w sc) y u (ps c) X (kM (C.fm w sc) body Q'))
  (done:∀ c,P n c→Q .next (ps c) (led c)):si C w sc (.Name y py) body it pm nx Q:=by
 intro v s T hv hR hT
 obtain ⟨t,rfl⟩:=aJ hx hv
 have hlen:(bE x).length=n:=by simpa [bE] using hn
 obtain ⟨m,os,F,N,hrest⟩:=fW hC ps led P (xs:=bE x) (py:=py) (keep:=[]) c₀ (fun _ _ _ p hp=>nomatch hp) h0 (fun i c its hi e f Q' d k=>by
  obtain ⟨u,X,h1,h2,h3⟩:=turn i c its (hlen▸hi) e f Q' d k
  exact ⟨u,X,fun x v h hx hv=>(sign_is i x v h hx hv).elim fun t e=>e▸h1 t,h2,h3⟩) (by rw [hlen];exact done) hR hT
 exact xl rfl F N fun I cls hI=>hrest _ (Dz hI)
theorem oY (hC:C.Ok w sc D) {l:Addr} {vs:List Value} {k:Nat} {σ:Type} (ps:σ→PM) (led:σ→Led) (P:Nat→σ→Prop) (c₀:σ) {y:Str} {py:Pos} {body:List Stmt} {Q:KF}
  (hkeep:∀ i c,P i c→(l,W.listOf vs.toArray k)∈led c) (h0:P 0 c₀∧Sub (ps c₀) pm∧∀ p∈led c₀,p∈nx)
  (turn:∀ i c its,i < vs.length→P i c→(∀ p∈led c,∀ q∈its,p.1≠q.1)→∀ Q':KF,l8 (P (i + 1)) ps led its Q'→sj Q Q'→oX (fun u=>∀ v,vs[i]?=some v→u.Is v) (its++led c) fun u X=>fS (C.fm w sc) y u (ps c) X (kM (C.fm w sc) body Q'))
  (done:∀ c,P vs.length c→Q .next (ps c) (led c)):si C w sc (.Name y py) body (.v (.ref l)) pm nx Q:=by
 intro v s T hv hR hT
 obtain rfl:=hv
 have hlen:(vs.map Itm.val).length=vs.length:=by simp
 obtain ⟨m,os,F,N,hrest⟩:=fW hC ps led P (xs:=vs.map Itm.val) (py:=py) (keep:=[(l,W.listOf vs.toArray k)]) c₀ (fun i c hp p hq=>sgX hq▸hkeep i c hp) h0 (fun i c its hi a b Q' d e=>by
  obtain ⟨u,X,h1,h2,h3⟩:=turn i c its (hlen▸hi) a b Q' d e
  refine ⟨u,X,fun a v h ha hv=>?_,h2,h3⟩
  rw [List.getElem?_map] at ha
  cases e:vs[i]? with
  | none=>rw [e] at ha;exact aV ha
  | some z=>rw [e] at ha;cases ha;obtain rfl:=hv;exact h1 _ e) (by rw [hlen];exact done) hR hT
 exact iter_listTurns rfl F N (apR (hkeep 0 c₀ h0.1)) rfl rfl fun I hI=>hrest _ (Dz hI)
end
end Mine
end
section
namespace Mine
def oZ (F:Fm) (ov:PV) (name:Str) (pm:PM) (nx:Led) (Kx:Value→List PV→PM→Led→Prop):Prop :=
 ∀ x pl s (T:Value×List Value→Shared→Prop),ov.Is x→F.R pm nx s→(∀ f first fs pm' nx' s',Kx f first pm' nx'→AllIs first fs→F.R pm' nx' s'→T (f,fs) s')→wpAny F.M F.A (getMethod x name pl) T NoE s
def cwH (F:Fm) (pos:Pos) (args:List Expr) (f:Value) (first:List PV) (pm:PM) (nx:Led) (Q:KV):Prop :=
 ∀ fs,AllIs first fs→GoV F (callWith pos f fs (backTo pos (starEach args F.env)) []) pm nx Q
abbrev GG (F:Fm) (pos:Pos) (args:List Expr) (Q:KV):Value→List PV→PM→Led→Prop:=fun f first pm nx=>cwH F pos args f first pm nx Q
abbrev Jb (F:Fm) (name:Str) (pos:Pos) (args:List Expr) (Q:KV):KV:=fun ov pm nx=>oZ F ov name pm nx (GG F pos args Q)
abbrev kCw (F:Fm) (f:Value) (first:List PV) (Q:KV):KL:=fun vs pm nx=>aI F f (first++vs) pm nx Q
theorem AllIs.append:∀ {a b:List PV} {x y:List Value},AllIs a x→AllIs b y→AllIs (a++b) (x++y):=by
 intro z0 z1 z2 z3 zz
 induction zz with
 | nil =>
  intro h
  exact h
 | cons h r ih =>
  intro h2
  exact .cons h (ih h2)
section
variable {F:Fm} {pm:PM} {nx:Led}
theorem aN (ok:F.Ok) {o:Expr} {name:Str} {apos pos:Pos} {args:List Expr} {pl:Sem Bool} {Q:KV}
  (h:(WW F 30).1 o pm nx (Jb F name pos args Q))
  (he:eval (.Call (.Attribute o name apos) args [] pos) F.env=(do
   let ov ← eval o F.env
   standAt apos.atName
   let (f,first) ← holding [ov] (getMethod ov name pl)
   callWith pos f first (backTo pos (starEach args F.env)) []):=by rfl):GoV F (eval (.Call (.Attribute o name apos) args [] pos) F.env) pm nx Q :=
 fun s P hR hP=>MethodCall_ ((ar ok 30).1 _ _ _ _ h s _ hR fun ov x _ _ s1 h1 hx hR1=>h1 x pl s1 _ hx hR1 fun f first fs _ _ s2 h2 hf hR2=>h2 fs hf s2 _ hR2 hP) he
theorem GH {pos:Pos} {id:String} {first:List PV} {Q:KV} (h:aI F (.builtin id) first pm nx Q):cwH F pos [] (.builtin id) first pm nx Q :=
 fun fs hf s P hR hP=>callWith_method0 (h fs hf s P hR hP)
theorem cwB (ok:F.Ok) {pos:Pos} {id:String} {e:Expr} {es:List Expr} {first:List PV} {Q:KV} (h:bN (WW F 30).1 (e::es) pm nx (kCw F (.builtin id) first Q)) (hp:a8 es=true:=by rfl):cwH F pos (e::es) (.builtin id) first pm nx Q :=
 fun fs hf s P hR hP=>callWith_method1 (bS (ar ok 30).1 pos h hR fun vs as _ _ s' q hv hR'=>q _ (hf.append hv) s' _ hR' hP) (aW (bh h) _ _) (plain_any hp)
theorem cwF (ok:F.Ok) {pos:Pos} {a:Addr} {e:Expr} {es:List Expr} {first:List PV} {Q:KV} (h:bN (WW F 30).1 (e::es) pm nx (kCw F (.ref a) first Q)) (hf:F.fn a=true:=by rfl):cwH F pos (e::es) (.ref a) first pm nx Q:=by
 intro fs hfs s P hR hP
 obtain ⟨o,fd,hd,ho⟩:=ok.func hf
 rw [aW (bh h)]
 refine callWith_function (o:=o) (fd:=fd) (evalArgs_plain ?_)
 have:=bS (ar ok 30).1 pos h hR (P:=fun vs s'=>(s'.heap.get? a=some o∧o.data=.func fd)∧wpAny F.M F.A (call (.ref a) (fs++vs)) P NoE s') fun vs as _ _ s' q hv hR'=>⟨⟨ho hR',hd⟩,q _ (hfs.append hv) s' _ hR' hP⟩
 rw [aW (bh h)] at this
 exact this
theorem sk {ov:PV} {z name:Str} {id:String} {Kx:Value→List PV→PM→Led→Prop} (hx:asS ov=some z) (slot:Slot "str" name id) (ty:typeOf (.builtin id)=pure (.type "method_descriptor")) (h:Kx (.builtin id) [.s z] pm nx):oZ F ov name pm nx Kx:=by
 intro x pl s T hv hR hT
 obtain ⟨t,rfl⟩:=aJ hx hv
 exact GM.of _ (typeIs_str _ _ _) slot ty GM.noRef (hT _ _ _ _ _ _ h (.cons ⟨t,rfl⟩ .nil) hR)
theorem dU (ok:F.Ok) {a i:Expr} {po pi:PV} {z:Str} {k:Int} {Q:KV} (hz:asS po=some z) (hi:asI pi=some k) (h1 : -(z.length:Int)≤k) (h2:k < z.length) (h3:z.length≤1000) {y:Str} (hy:Txt.item z k=y) (h:Q (.s y) pm nx) (hn:bO i=true:=by rfl):ow F a i po pi pm nx Q:=by
 subst hy
 intro x y hx hy s P hR hP
 obtain ⟨t,rfl⟩:=aJ hz hx
 obtain ⟨u,rfl⟩:=au hi hy
 refine item_str (fitsSsize_of (N:=100000) (by lia) (by lia) (by decide)) h1 h2 (fun _=>hP _ _ _ _ _ h ⟨_,rfl⟩ (ok.toks _ hR)) ?_ fun r=>?_
 ·cases i <;> first | with_unfolding_all rfl | exact bA hn
 ·cases a <;> rfl
theorem sm (ok:F.Ok) {l:Addr} {vs:List Value} {n:Nat} {name:Str} {id:String} {Kx:Value→List PV→PM→Led→Prop} (hm:(l,W.listOf vs.toArray n)∈nx) (slot:Slot "list" name id) (ty:typeOf (.builtin id)=pure (.type "method_descriptor")) (h:Kx (.builtin id) [.v (.ref l)] pm nx):oZ F (.v (.ref l)) name pm nx Kx:=by
 intro x pl s T hv hR hT
 obtain rfl:=hv
 have ho:=ok.mem hR hm
 exact getMethod_builtin ⟨_,ho,rfl⟩ PySem.F.plainAttrs_list slot ty (fun a e=>by cases e;exact ⟨_,ho,rfl⟩) (hT _ _ _ _ _ _ h (.cons rfl .nil) hR)
theorem so (ok:F.Ok) {a:PV} {z:Str} {l:Addr} {vs:List Value} {ys:List Str} {n:Nat} {Q:KV} (hz:asS a=some z) (hl:(l,W.listOf vs.toArray n)∈nx) (hs:StrsAre vs ys) (h:Q (.v (.bool (!(ys.any (· == z))))) pm nx):dE F .NotIn a (.v (.ref l)) pm nx Q:=by
 intro x y hx hy s P hR hP
 obtain ⟨t,rfl⟩:=aJ hz hx
 obtain rfl:=hy
 exact notin_list_strs (ok.list hR hl) hs (hP _ _ _ _ _ h rfl hR)
end
section
variable {F:Fm} {pm:PM} {nx:Led}
theorem FH (ok:F.Ok) {x d l:Addr} {t:Tok} {name:Str} {f:Addr} {Kx:Value→List PV→PM→Led→Prop} (hx:(x,instObj 317 d)∈nx) (hd:(d,bx F.w l t)∈nx)
  (hg:plainGet (K F.w.params) 317 name=true) (hf:findIn (K F.w.params) (.ref 317) name=some (some (.ref f))) (ht:W.isFn (K F.w.params) (.ref f)=true) (hl:getL name [⟨PyData.keyHash F.w.params (Str.ofString "_headers"),.str (Str.ofString "_headers") t,.ref l⟩]=some none) (h:Kx (.ref f) [.v (.ref x)] pm nx):oZ F (.v (.ref x)) name pm nx Kx:=by
 intro y pl s T hv hR hT
 obtain rfl:=hv
 obtain ⟨m,os,Fr',N,ap,_,mk⟩:=ok.opc hR
 obtain ⟨D,hC⟩:=ok.gr
 exact method_inst Fr' hC.X (InstAt.of_news N (apR hx) (apR hd)) hg hf ht hl (hT _ _ _ _ _ _ h (.cons rfl .nil) hR)
theorem gP (ok:F.Ok) {x d l:Addr} {t:Tok} {Kx:Value→List PV→PM→Led→Prop} (hx:(x,instObj 317 d)∈nx) (hd:(d,bx F.w l t)∈nx) (h:Kx (.ref 256) [.v (.ref x)] pm nx):oZ F (.v (.ref x)) (Str.ofString "get_all") pm nx Kx :=
 FH ok hx hd (by kernel_rfl) (by kernel_rfl) (by kernel_rfl) (by kernel_rfl) h
theorem sq (ok:F.Ok) {x d l:Addr} {t:Tok} {Kx:Value→List PV→PM→Led→Prop} (hx:(x,instObj 317 d)∈nx) (hd:(d,bx F.w l t)∈nx) (h:Kx (.ref 314) [.v (.ref x)] pm nx):oZ F (.v (.ref x)) (Str.ofString "add_header") pm nx Kx :=
 FH ok hx hd (by kernel_rfl) (by kernel_rfl) (by kernel_rfl) (by kernel_rfl) h
theorem nz (ok:F.Ok) {a b:Addr} {vs us:List Value} {n k:Nat} {Q:KV} (ha:(a,W.listOf vs.toArray n)∈nx) (hb:(b,W.listOf us.toArray k)∈nx) (hz:vs.length + us.length≤10000)
  (h:∀ E,(∀ p∈nx,p.1 < E)→Q (.v (.ref E)) pm ((E,W.listOf (vs++us).toArray 0)::nx)):fg F .Add (.v (.ref a)) (.v (.ref b)) pm nx Q:=by
 intro x y hx hy s P hR hP
 obtain rfl:=hx;obtain rfl:=hy
 obtain ⟨m,os,Fr',N,ap,_,mk⟩:=ok.opc hR
 refine kmk_add_lit Fr' N (News.isList N (apR ha)) (News.isList N (apR hb)) rfl (fun E h' F' N' hE=>?_) (Nat.le_trans (by simpa using hz) (aD rfl))
 refine hP _ _ _ _ _ (h E fun p hp=>hE p (apR hp)) rfl (mk _ s.toks _ F' (News.of N' fun p hp=>?_) fun p hp q hq=>?_)
 ·rcases apX hp with hp | hp
  ·exact .tail _ (apL hp)
  ·rcases cnX hp with rfl | hp
   ·exact .head _
   ·exact .tail _ (apR hp)
 ·rcases cnX hq with rfl | hq
  ·exact Nat.ne_of_lt (hE p (apL hp))
  ·exact ap p hp q hq
end
end Mine
end
section
namespace Mine
noncomputable def inC:List (Str×Addr)→Str→Bool
 | [],_=>false
 | p::r,x=>(match sEq p.1 x with | true=>true | false=>inC r x)
theorem DA {x:Str}:∀ {l:List (Str×Addr)},inC l x=true→∃ c,l.lookup x=some c:=by
 intro zz
 induction zz with
 | nil=>exact nofun
 | cons p r ih =>
  intro h
  have h:(match sEq p.1 x with | true=>true | false=>inC r x)=true:=h
  rw [List.lookup_cons]
  cases e:x==p.1 with
  | true=>exact ⟨_,rfl⟩
  | false =>
   have e2:sEq p.1 x=false:=by
    cases e2:sEq p.1 x with
    | true=>rw [dm e2,beq_self_eq_true] at e;exact kE e
    | false=>rfl
   rw [e2] at h
   exact ih h
theorem iT {x:Str} {c:Addr} {b:List (Str×Addr)}:∀ {a:List (Str×Addr)},a.lookup x=some c→(a++b).lookup x=some c:=by
 intro zz
 induction zz with
 | nil=>exact nofun
 | cons p r ih =>
  intro h
  rw [List.cons_append,List.lookup_cons]
  rw [List.lookup_cons] at h
  cases e:x==p.1 with
  | true=>rw [e] at h;exact h
  | false=>rw [e] at h;exact ih h
inductive v7 (F:Fm) (scope:Scope) (cl own:List (Str×Addr)) (pmO:PM) (x:Str) (pv:PV):Prop
 | mk (c:Addr) (u:PV):(relabel scope F.env).names.lookup x=some .cell→(own++cl).lookup x=some c→F.cell x=some c→(x==("__debug__":Str))=false→look pmO x=some u→(∀ v,u.Is v→pv.Is v)→v7 F scope cl own pmO x pv
inductive cFx (F:Fm) (scope:Scope) (cl own:List (Str×Addr)) (pmO:PM) (m₂ cm:Str→Option Value) (x:Str) (pv:PV):Prop
 | cap:v7 F scope cl own pmO x pv→cFx F scope cl own pmO m₂ cm x pv
 | loc (v:Value):(x==("__debug__":Str))=false→pv.Is v→(relabel scope F.env).names.lookup x=some .local→m₂ x=some v→cFx F scope cl own pmO m₂ cm x pv
 | cel (v:Value) (c:Addr):(x==("__debug__":Str))=false→pv.Is v→(relabel scope F.env).names.lookup x=some .cell→own.lookup x=some c→cm x=some v→cFx F scope cl own pmO m₂ cm x pv
def Kj (Cc:Addr) (os l:Led):Prop:=∀ p∈l,p.1≠Cc∧∀ q∈os,q.1≠p.1
def cNe (Cc:Addr) (os:Led):Prop:=∀ q∈os,q.1≠Cc
def Fm.cFt (F:Fm) (scope:Scope) (cl own:List (Str×Addr)) (pmO pm:PM) (m₂ cm:Str→Option Value):Prop:=∀ x pv,look pm x=some pv→cFx F scope cl own pmO m₂ cm x pv
inductive Fm.cR (F:Fm) (scope:Scope) (cl own:List (Str×Addr)) (Cc:Addr) (pmO:PM) (tr:Led) (pm:PM) (nx:Led) (s:Shared):Prop
 | mk (oC:Obj) (m₂ cm:Str→Option Value) (os:Led):F.R pmO ((Cc,oC)::(os++(tr++nx))) s→LCg.NsObj oC m₂→CellsAre cm own os→Kj Cc os (tr++nx)→cNe Cc os→Apart nx tr→F.cFt scope cl own pmO pm m₂ cm→Fm.cR F scope cl own Cc pmO tr pm nx s
noncomputable def Fm.cfR (F:Fm) (scope:Scope) (cl own:List (Str×Addr)) (Cc:Addr) (R:PM→Led→Shared→Prop):Fm where
 w:=F.w
 A:=F.A
 env:=compEnvC scope (own++cl) Cc F.env
 R:=R
 sto:=fun x=>match lkK (relabel scope F.env).names x with | some .local=>fQ x | some .cell=>(match inC own x with | true=>fQ x | false=>false) | _=>false
 cell:=fun x=>match lkK (relabel scope F.env).names x with | some .cell=>(own++cl).lookup x | _=>none
 C:=F.C
 sc:=F.sc
noncomputable abbrev Fm.cf (F:Fm) (scope:Scope) (cl own:List (Str×Addr)) (Cc:Addr) (pmO:PM) (tr:Led):Fm:=F.cfR scope cl own Cc (F.cR scope cl own Cc pmO tr)
structure CfK where
 Cc:Addr
 K:Addr
 R:PM→Led→Shared→Prop
section
variable {F:Fm} {scope:Scope} {cl own:List (Str×Addr)} {Cc:Addr} {pmO pm:PM} {nx tr:Led} {s:Shared}
theorem nB {h₀ h h':Heap} {L l:Addr} {o':Obj} {rest:Led} {o:Obj} (N:News h₀ L h ((l,o)::rest)) (hr:∀ p∈rest,p.1≠l) (hs:Heap.SameBut l h h') (ho:h'.get? l=some o'):News h₀ L h' ((l,o')::rest):=fun p hp=>by
 rcases cnX hp with rfl | hp
 ·exact ⟨ho,(N _ (.head _)).2⟩
 ·have z:=N p (.tail _ hp)
  exact ⟨(hs.2 p.1 (hr p hp)).trans z.1,z.2⟩
theorem Fm.cfOk (ok:F.Ok) (hk:scope.kind=.function) (hn:(own.map (·.1)).Nodup) (ha:(own.map (·.2)).Nodup):(F.cf scope cl own Cc pmO tr).Ok where
 hA:=ok.hA
 gr:=ok.gr
 kind:=hk
 glb:=ok.glb
 blt:=ok.blt
 opc:=by
  rintro pm nx s ⟨oC,m₂,cm,os,hR,hO,Y,a1,a2,a3,ft⟩
  obtain ⟨m,os',Fr',N,ap,hcl,mk⟩:=ok.opc hR
  have ass:∀ z:Led,os'++(Cc,oC)::(os++tr)++z=os'++(Cc,oC)::(os++(tr++z)):=fun z=>by simp
  refine ⟨m,os'++(Cc,oC)::(os++tr),Fr',by rw [ass];exact N,fun p hp q hq=>?_,fun x pv c hl hc=>?_,fun h' tk' nx' F' N' ap'=>⟨oC,m₂,cm,os,mk h' tk' _ F' (by rw [← ass];exact N') (fun p hp q hq=>?_),hO,Y,fun p hp=>?_,a2,fun p hp q hq=>Ne.symm (ap' q (by simp [hq]) p hp),ft⟩⟩
  ·rcases apX hp with hp | hp
   ·exact ap p hp q (.tail _ (apR (apR hq)))
   ·rcases cnX hp with rfl | hp
    ·exact Ne.symm (a1 q (apR hq)).1
    ·rcases apX hp with hp | hp
     ·exact (a1 q (apR hq)).2 p hp
     ·exact Ne.symm (a3 q hq p hp)
  ·have hc:(match lkK (relabel scope F.env).names x with | some .cell=>(own++cl).lookup x | _=>none)=some c:=hc
   split at hc
   ·rename_i hkd
    rcases ft x pv hl with ⟨c',u,b1,b2,b3,b4,b5,b6⟩ | ⟨v,b1,b2,b3,b4⟩ | ⟨v,c',b1,b2,b3,b4,b5⟩
    ·rw [b2] at hc
     cases hc
     obtain ⟨o,v,z1,z2,z3⟩:=hcl x u c b5 b3
     exact ⟨o,v,apL z1,z2,b6 v z3⟩
    ·rw [bB hkd] at b3;cases b3
    ·rw [iT b4] at hc
     cases hc
     obtain ⟨o,ho,hod⟩:=dH Y (mem_of_lookup b4)
     exact ⟨o,v,apR (.tail _ (apL ho)),by rw [hod,b5],b2⟩
   ·exact aV hc
  ·rcases cnX hq with rfl | hq
   ·exact ap p hp _ (.head _)
   ·rcases apX hq with hq | hq
    ·exact ap p hp q (.tail _ (apL hq))
    ·rcases apX hq with hq | hq
     ·exact ap p hp q (.tail _ (apR (apL hq)))
     ·exact ap' p (apL hp) q hq
  ·rcases apX hp with hp | hp
   ·exact a1 p (apL hp)
   ·exact ⟨Ne.symm (ap' (Cc,oC) (by simp) p hp),fun q hq=>ap' q (by simp [hq]) p hp⟩
 pms:=by
  rintro pm pm' nx s ⟨oC,m₂,cm,os,hR,hO,Y,a1,a2,a3,ft⟩ hsub
  refine ⟨oC,m₂,cm,os,hR,hO,Y,a1,a2,a3,fun x pv h=>?_⟩
  obtain ⟨u,hu,hle⟩:=hsub.look h
  rcases ft x u hu with ⟨c,z,b1,b2,b3,b4,b5,b6⟩ | ⟨v,b1,b2,b3,b4⟩ | ⟨v,c,b1,b2,b3,b4,b5⟩
  ·exact .cap ⟨c,z,b1,b2,b3,b4,b5,fun v hv=>hle.is (b6 v hv)⟩
  ·exact .loc v b1 (hle.is b2) b3 b4
  ·exact .cel v c b1 (hle.is b2) b3 b4 b5
 load:=by
  rintro pm nx s x pv ⟨oC,m₂,cm,os,hR,hO,Y,a1,a2,a3,ft⟩ hl
  rcases ft x pv hl with ⟨c,u,b1,b2,b3,b4,b5,b6⟩ | ⟨v,b1,b2,b3,b4⟩ | ⟨v,c,b1,b2,b3,b4,b5⟩
  ·obtain ⟨o,v,z1,z2,z3⟩:=ok.cellR hR b5 b3
   exact ⟨b4,fun hP=>wpAny_loadName_cell (env:=compEnvC scope (own++cl) Cc F.env) hk b1 b2 ⟨o,z1,z2⟩ (hP v (b6 v z3))⟩
  ·exact ⟨b1,fun hP=>wpAny_loadName_local (env:=compEnvC scope (own++cl) Cc F.env) hk b3 (hO.ns (ok.mem hR (.head _))) b4 (hP v b2)⟩
  ·obtain ⟨o,ho,hod⟩:=dH Y (mem_of_lookup b4)
   rw [b5] at hod
   exact ⟨b1,fun hP=>wpAny_loadName_cell (env:=compEnvC scope (own++cl) Cc F.env) hk b3 (iT b4) ⟨o,ok.mem hR (.tail _ (apL ho)),hod⟩ (hP v b2)⟩
 store:=by
  rintro pm nx s x pv v P hx ⟨oC,m₂,cm,os,hR,hO,Y,a1,a2,a3,ft⟩ hv hP
  have hx:(match lkK (relabel scope F.env).names x with | some .local=>fQ x | some .cell=>(match inC own x with | true=>fQ x | false=>false) | _=>false)=true:=hx
  have keep:∀ y pw,look (put x pv pm) y=some pw→(y=x∧pw=pv)∨(y≠x∧look pm y=some pw):=fun y pw hy=>by
   rw [nk] at hy
   split at hy
   ·rename_i e
    cases hy
    exact .inl ⟨(dm e).symm,rfl⟩
   ·rename_i e
    exact .inr ⟨fun q=>by (rw [q,dh] at e;exact kE e),hy⟩
  split at hx
  ·rename_i hkd
   refine ok.turn hR (.head _) fun m rest Fr' N hr mk=>?_
   have hN:=N _ (.head _)
   refine wpAny_storeName_local (env:=compEnvC scope (own++cl) Cc F.env) (bB hkd) (hO.ns (ok.mem hR (.head _))) (fun h' hn' hs=>?_) (by simp [compEnvC,relabel,hk])
   obtain ⟨oC',e1,hO'⟩:=LCg.ns_obj hn'
   refine hP _ ⟨oC',_,cm,os,mk h' _ oC' _ (Fr'.change hs hN.2.1 hN.2.2) (nB N hr hs e1) (fun p hp=>?_),hO',Y,a1,a2,a3,fun y pw hy=>?_⟩
   ·rcases cnX hp with rfl | hp
    ·exact .inl rfl
    ·refine .inr ⟨.tail _ hp,?_⟩
     rcases apX hp with hp | hp
     ·exact a2 p hp
     ·exact (a1 p hp).1
   ·rcases keep y pw hy with ⟨rfl,rfl⟩ | ⟨hne,hy⟩
    ·exact .loc v (dI hx) hv (bB hkd) (if_pos rfl)
    ·rcases ft y pw hy with h | ⟨u,b1,b2,b3,b4⟩ | ⟨u,c,b1,b2,b3,b4,b5⟩
     ·exact .cap h
     ·exact .loc u b1 b2 b3 ((if_neg hne).trans b4)
     ·exact .cel u c b1 b2 b3 b4 b5
  ·rename_i hkd
   split at hx
   ·rename_i hin
    obtain ⟨c,hc⟩:=DA hin
    have hmem:=mem_of_lookup hc
    obtain ⟨o,ho,hod⟩:=dH Y hmem
    have hm:(c,o)∈(Cc,oC)::(os++(tr++nx)):=.tail _ (apL ho)
    refine ok.turn hR hm fun m rest Fr' N hr mk=>?_
    have hN:=N _ (.head _)
    refine wpAny_storeName_cell (env:=compEnvC scope (own++cl) Cc F.env) hk (bB hkd) (iT hc) ⟨o,ok.mem hR hm,hod⟩ fun h' hv' hs=>?_
    obtain ⟨o',ho',hd'⟩:=hv'
    have Y':=(lD (v:=v) hd' Y hmem hn).resolve_right (not_not_intro ha)
    refine hP _ ⟨oC,m₂,_,_,mk h' s.toks o' _ (Fr'.change hs hN.2.1 hN.2.2) (nB N hr hs ho') (fun p hp=>?_),hO,Y',fun p hp=>⟨(a1 p hp).1,fun q hq=>?_⟩,fun q hq=>?_,a3,fun y pw hy=>?_⟩
    ·rcases cnX hp with rfl | hp
     ·exact .inr ⟨.head _,Ne.symm (a2 _ ho)⟩
     ·rcases apX hp with hp | hp
      ·obtain ⟨q,hq⟩:=bI hp
       by_cases e:q.1=c
       ·rw [if_pos e];exact .inl rfl
       ·rw [if_neg e];exact .inr ⟨.tail _ (apL hq),e⟩
      ·exact .inr ⟨.tail _ (apR hp),Ne.symm ((a1 p hp).2 _ ho)⟩
    ·obtain ⟨z,hz⟩:=bI hq
     split
     ·exact (a1 p hp).2 (c,o) ho
     ·exact (a1 p hp).2 z hz
    ·obtain ⟨z,hz⟩:=bI hq
     split
     ·exact a2 (c,o) ho
     ·exact a2 z hz
    ·rcases keep y pw hy with ⟨rfl,rfl⟩ | ⟨hne,hy⟩
     ·exact .cel v c (dI hx) hv (bB hkd) hc (if_pos rfl)
     ·rcases ft y pw hy with h | ⟨u,b1,b2,b3,b4⟩ | ⟨u,c,b1,b2,b3,b4,b5⟩
      ·exact .cap h
      ·exact .loc u b1 b2 b3 b4
      ·exact .cel u c b1 b2 b3 b4 ((if_neg hne).trans b5)
   ·exact bA hx
  ·exact bA hx
theorem Fm.cR.up (h:F.cR scope cl own Cc pmO tr pm nx s):F.cR scope cl own Cc pmO [] pm (tr++nx) s:=by
 obtain ⟨oC,m₂,cm,os,hR,hO,Y,a1,a2,a3,ft⟩:=h
 exact ⟨oC,m₂,cm,os,hR,hO,Y,a1,a2,fun p hp q hq=>(nomatch hq),ft⟩
theorem Fm.cR.down (h:F.cR scope cl own Cc pmO [] pm (tr++nx) s) (a:∀ p∈nx,∀ q∈tr,p.1≠q.1):F.cR scope cl own Cc pmO tr pm nx s:=by
 obtain ⟨oC,m₂,cm,os,hR,hO,Y,a1,a2,a3,ft⟩:=h
 exact ⟨oC,m₂,cm,os,hR,hO,Y,a1,a2,a,ft⟩
end
end Mine
end
section
namespace Mine
structure Src (M:Model) (A:Around) (I:Addr) (n:Nat) (It:Nat→Value→Prop) (O:Nat→Obj→Prop) (need:Led):Prop where
 item:∀ i (s:Shared) oI (Q:Option Value→Shared→Prop),i < n→O i oI→s.heap.get? I=some oI→(∀ p∈need,s.heap.get? p.1=some p.2) →
  (∀ v h' tk oI',It i v→O (i + 1) oI'→h'.get? I=some oI'→(∀ b o,b≠I→s.heap.get? b=some o→h'.get? b=some o)→Q (some v) { s with heap:=h',toks:=tk })→wpAny M A (pyNext (.ref I)) Q NoE s
 done:∀ (s:Shared) oI (Q:Option Value→Shared→Prop),O n oI→s.heap.get? I=some oI→(∀ p∈need,s.heap.get? p.1=some p.2) →
  (∀ h' tk,(∀ b o,b≠I→s.heap.get? b=some o→h'.get? b=some o)→Q none { s with heap:=h',toks:=tk })→wpAny M A (pyNext (.ref I)) Q NoE s
 self:∀ i (s:Shared) oI (Q:Value→Shared→Prop) (E:Value→Shared→Prop),O i oI→s.heap.get? I=some oI→(∀ p∈need,s.heap.get? p.1=some p.2)→Q (.ref I) s→wpAny M A (pyIter (.ref I)) Q E s
theorem Src.of {prog:Program} {w:World} {A:Around} {I:Addr} {fp:List Addr} {n:Nat} {P:Nat→Value→Prop} {St:Nat→Heap→Prop} {O:Nat→Obj→Prop} {need:Led} (W:Walks prog w A I fp [I] n P St)
  (h1:∀ i oI h,O i oI→h.get? I=some oI→(∀ p∈need,h.get? p.1=some p.2)→St i h) (h2:∀ i h,St i h→∃ oI,h.get? I=some oI∧O i oI):Src (model prog w) A I n P O need where
 item:=fun i s oI Q hi hO hg hn k=>W.item i s Q _ hi (h1 i oI _ hO hg hn) fun v h' tk hv hst hk =>
  let ⟨oI',a,b⟩:=h2 _ _ hst
  k v h' tk oI' hv b a fun b o hb e=>hk b o (fun q=>hb (sgX q)) e
 done:=fun s oI Q hO hg hn k=>W.done s Q _ (h1 n oI _ hO hg hn) fun h' tk hk=>k h' tk fun b o hb e=>hk b o (fun q=>hb (sgX q)) e
 self:=fun i s oI Q E hO hg hn k=>W.self i s Q E (h1 i oI _ hO hg hn) k
def Jc (l:Addr) (i:Nat) (o:Obj):Prop:=o.cls=.type "list_iterator"∧o.data=.fields #[.ref l,.int i 0]
def GI (ty:String) (x:Str) (t:Tok) (i:Nat) (o:Obj):Prop:=o.cls=.type ty∧o.data=.fields #[.str x t,.int i 0]
def Jd (a:Int) (n i:Nat) (o:Obj):Prop:=∀ (I:Addr) (h:Heap),h.get? I=some o→IsRangeIter h I (a + (i:Nat) * 1) ((n:Int) - (i:Nat)) 1
section
variable {prog:Program} {w:World} {A:Around} {I:Addr}
theorem DB (hh:A.handled=none) {l:Addr} (hne:l≠I) (vs:List Value) (k:Nat):Src (model prog w) A I vs.length (fun i v=>vs[i]?=some v) (Jc l) [(l,W.listOf vs.toArray k)]:=by
 have W:=Walks.list (prog:=prog) (w:=w) hh I l hne vs.toArray
 simp only [List.size_toArray,List.getElem?_toArray] at W
 exact Src.of W (fun i oI h hO hg hn=>⟨⟨oI,hg,hO⟩,_,hn _ (.head _),rfl,_,rfl⟩) fun i h ⟨⟨o,e,r⟩,_⟩=>⟨o,e,r⟩
theorem DC (hh:A.handled=none) (x:Str) (t:Tok):Src (model prog w) A I x.cps.size (SignAt x) (GI (strIterType x) x t) []:=by
 have h1:∀ ty i oI (h:Heap),GI ty x t i oI→h.get? I=some oI→(∀ p∈([]:Led),h.get? p.1=some p.2)→h.IsStrIter I ty x t i:=fun ty i oI h hO hg _=>⟨oI,hg,hO⟩
 have h2:∀ ty i (h:Heap),h.IsStrIter I ty x t i→∃ oI,h.get? I=some oI∧GI ty x t i oI:=fun ty i h ⟨o,e,r⟩=>⟨o,e,r⟩
 unfold strIterType
 cases x.cps.all (· < 128)
 ·exact Src.of (Walks.strWide hh I x t) (h1 _) (h2 _)
 ·exact Src.of (Walks.strAscii hh I x t) (h1 _) (h2 _)
theorem DD (hh:A.handled=none) (a:Int) (n:Nat):Src (model prog w) A I n (fun i v=>∃ t,v=.int (a + (i:Int)) t) (Jd a n) [] :=
 Src.of (LCg.range_walks (I:=I) hh a n) (fun i oI h hO hg _=>hO I h hg) fun i h st=>⟨_,st,fun I' h' e=>e⟩
end
section
variable {G:Fm} {pm:PM} {nx need:Led} {s:Shared} {I:Addr} {oI:Obj} {n:Nat} {It:Nat→Value→Prop} {O:Nat→Obj→Prop}
theorem sr (ok:G.Ok) (hR:G.R pm ((I,oI)::nx) s) (hoff:∀ p∈nx,p.1≠I) {h':Heap} {tk:Tok} (hk:∀ b o,b≠I→s.heap.get? b=some o→h'.get? b=some o) :
  G.R pm nx { s with heap:=h',toks:=tk }∧∀ oI',h'.get? I=some oI'→G.R pm ((I,oI')::nx) { s with heap:=h',toks:=tk }:=by
 obtain ⟨m,os,F,N,ap,_,mk⟩:=ok.opc hR
 have hI:=N (I,oI) (apR (.head _))
 have F':Fr G.C.h₀ G.C.L h' m:=⟨F.ns.at' fun o e=>hk _ o (Ne.symm hI.2.1) e,fun b o e=>hk b o (fun q=>by rw [q,hI.2.2] at e;exact aV e) (F.keep b o e),F.above⟩
 have old:∀ p∈os++nx,h'.get? p.1=some p.2∧p.1≠G.C.L∧G.C.h₀.get? p.1=none:=fun p hp=>by
  have hne:p.1≠I:=(apX hp).elim (fun hp=>ap p hp _ (.head _)) (hoff p)
  have z:=N p ((apX hp).elim (apL) fun hp=>apR (.tail _ hp))
  exact ⟨hk _ _ hne z.1,z.2⟩
 refine ⟨mk h' tk nx F' old fun p hp q hq=>ap p hp q (.tail _ hq),fun oI' e=>mk h' tk _ F' (fun p hp=>?_) fun p hp q hq=>?_⟩
 ·rcases apX hp with hp | hp
  ·exact old p (apL hp)
  ·rcases cnX hp with rfl | hp
   ·exact ⟨e,hI.2⟩
   ·exact old p (apR hp)
 ·rcases cnX hq with rfl | hq
  ·exact ap p hp (I,oI) (.head _)
  ·exact ap p hp q (.tail _ hq)
theorem kN (ok:G.Ok) (hR:G.R pm nx s) (hneed:∀ p∈need,p∈nx):∀ p∈need,s.heap.get? p.1=some p.2:=fun p hp=>ok.mem hR (hneed p hp)
theorem rd (ok:G.Ok) (S:Src G.M G.A I n It O need) {i:Nat} (hi:i < n) (hO:O i oI) (hneed:∀ p∈need,p∈nx) (hoff:∀ p∈nx,p.1≠I) (hR:G.R pm ((I,oI)::nx) s) {T:Option Value→Shared→Prop}
  (h:∀ v s' oI',It i v→O (i + 1) oI'→G.R pm ((I,oI')::nx) s'→T (some v) s'):wpAny G.M G.A (pyNext (.ref I)) T NoE s :=
 S.item i s oI T hi hO (ok.mem hR (.head _)) (kN ok hR fun p hp=>.tail _ (hneed p hp)) fun v _ _ oI' hv hO' e hk=>h v _ oI' hv hO' ((sr ok hR hoff hk).2 oI' e)
theorem tS (ok:G.Ok) (S:Src G.M G.A I n It O need) (hO:O n oI) (hneed:∀ p∈need,p∈nx) (hoff:∀ p∈nx,p.1≠I) (hR:G.R pm ((I,oI)::nx) s) {T:Option Value→Shared→Prop}
  (h:∀ s',G.R pm nx s'→T none s'):wpAny G.M G.A (pyNext (.ref I)) T NoE s :=
 S.done s oI T hO (ok.mem hR (.head _)) (kN ok hR fun p hp=>.tail _ (hneed p hp)) fun _ _ hk=>h _ (sr ok hR hoff hk).1
end
noncomputable def ownOf:Option Str→Addr→List (Str×Addr)
 | none,_=>[]
 | some y,k=>[(y,k)]
noncomputable def AR:Obj:={ cls:=.type "cell",data:=.cell none }
noncomputable def wa:Option Str→Heap→Heap
 | none,h=>h
 | some _,h=>h.push AR
section
variable {F:Fm} {scope:Scope} {cl:List (Str×Addr)} {oy:Option Str} {pmO pmE:PM}
noncomputable def Fm.cfk (F:Fm) (scope:Scope) (cl:List (Str×Addr)) (oy:Option Str) (κ:CfK):Fm:=F.cfR scope cl (ownOf oy κ.K) κ.Cc κ.R
def capE (F:Fm) (scope:Scope) (cl:List (Str×Addr)) (oy:Option Str) (pmO:PM):PM→Prop
 | []=>True
 | p::r=>(lkK (relabel scope F.env).names p.1=some .cell∧(∃ c,(∀ K,(ownOf oy K++cl).lookup p.1=some c)∧F.cell p.1=some c)∧fQ p.1=true∧Gp (look pmO p.1) p.2)∧capE F scope cl oy pmO r
theorem capE.get {x:Str} {pv:PV} (K:Addr):∀ {pmE:PM},capE F scope cl oy pmO pmE→look pmE x=some pv→v7 F scope cl (ownOf oy K) pmO x pv:=by
 intro zz
 induction zz with
 | nil=>exact nofun
 | cons p r ih =>
  intro hf h
  have h:(match sEq p.1 x with | true=>some p.2 | false=>look r x)=some pv:=h
  cases e:sEq p.1 x with
  | true =>
   rw [e] at h;cases h;rw [← dm e]
   obtain ⟨⟨h1,⟨c,h2,h3⟩,h4,h5⟩,_⟩:=hf
   cases e2:look pmO p.1 with
   | none=>rw [e2] at h5;exact h5.elim
   | some u=>rw [e2] at h5;exact ⟨c,u,bB h1,h2 K,h3,dI h4,e2,fun v hv=>h5.is hv⟩
  | false=>rw [e] at h;exact ih hf.2 h
theorem dK (K:Addr):((ownOf oy K).map (·.1)).Nodup∧((ownOf oy K).map (·.2)).Nodup:=by
 cases oy <;> exact ⟨by simp [ownOf],by simp [ownOf]⟩
theorem pd (ok:F.Ok) {nx:Led} {s:Shared} (hk:scope.kind=.function) (hcf:∀ k,cellsFrom k scope.names cl=ownOf oy k++cl) (hpc:∀ h,pushCells h scope.names=wa oy h) (hE:capE F scope cl oy pmO pmE) (hR:F.R pmO nx s) {T:Env→Shared→Prop}
  (h:∀ Cc K s',(∀ p∈nx,p.1≠Cc)→F.cR scope cl (ownOf oy K) Cc pmO [] pmE nx s'→T { (compEnvC scope (ownOf oy K++cl) Cc F.env) with scope:=scope } s') :
  wpAny F.M F.A (newFunctionEnv scope F.env.globals cl [] F.env.qual none .none (some F.env)) T NoE s:=by
 simp only [newFunctionEnv,Option.isSome_some,if_true]
 refine wpAny_bind (wpAny_alloc ?_)
 refine wpAny_bind (wpAny_layCells _ (fun name kind cells=>by cases hkc:kind==NameKind.cell <;> simp [hkc]) _ _ _ _ ?_)
 rw [List.forIn_nil]
 refine wpAny_bind (wpAny_pure (wpAny_pure ?_))
 rw [hcf,hpc]
 obtain ⟨R1,lt1⟩:=ok.alloc (o:={ cls:=.type "dict",data:=.dict #[] }) rfl hR
 have ns1:LCg.NsObj { cls:=.type "dict",data:=.dict #[] } (fun _=>none):=by
  obtain ⟨o,e,r⟩:=LCg.ns_obj (Heap.Ns.new s.heap (.type "dict"))
  rw [Heap.get?_push_size _ rfl] at e
  cases e
  exact r
 have hall:∀ K,∀ x pv,look pmE x=some pv→v7 F scope cl (ownOf oy K) pmO x pv:=fun K x pv e=>hE.get K e
 refine h s.heap.objs.size _ _ (fun p hp=>Nat.ne_of_lt (lt1 p hp)) ?_
 cases oy with
 | none=>exact ⟨_,_,fun _=>none,[],R1,ns1,.nil,fun p hp=>⟨Nat.ne_of_lt (lt1 p hp),fun q hq=>nomatch hq⟩,fun q hq=>(nomatch hq),fun p hp q hq=>(nomatch hq),fun x pv e=>.cap (hall _ x pv e)⟩
 | some y =>
  obtain ⟨R2,lt2⟩:=ok.alloc (o:=AR) rfl R1
  have e1:(s.heap.push { cls:=.type "dict",data:=.dict #[] }).objs.size=s.heap.objs.size + 1:=Heap.size_push ..
  refine ⟨_,_,fun _=>none,[((s.heap.push { cls:=.type "dict",data:=.dict #[] }).objs.size,AR)],ok.led R2 fun p hp=>?_,ns1,.cons rfl .nil,fun p hp=>⟨Nat.ne_of_lt (lt1 p hp),fun q hq=>?_⟩,fun q hq=>?_,fun p hp q hq=>(nomatch hq),fun x pv e=>.cap (hall _ x pv e)⟩
  ·rcases cnX hp with rfl | hp
   ·exact .tail _ (.head _)
   ·rcases cnX hp with rfl | hp
    ·exact .head _
    ·exact .tail _ (.tail _ hp)
  ·rw [sgX hq]
   exact Nat.ne_of_gt (lt2 p (.tail _ hp))
  ·rw [sgX hq,e1]
   exact Nat.ne_of_gt (Nat.lt_succ_self _)
end
abbrev kYN (yes no:PM→Led→Prop):KB:=fun b pm nx=>ifE b (yes pm nx) (no pm nx)
def AS (G:Fm) (ifs:List Expr) (pm:PM) (nx:Led) (yes no:PM→Led→Prop):Prop :=
 match ifs with
 | []=>yes pm nx
 | [c]=>(WW G 30).2 c pm nx (kYN yes no)
 | _=>False
theorem AU {G:Fm} (ok:G.Ok) {ifs:List Expr} {pm:PM} {nx:Led} {yes no:PM→Led→Prop} {s:Shared} {T:Bool→Shared→Prop} (h:AS G ifs pm nx yes no) (hR:G.R pm nx s) (h1:∀ pm' nx' s',yes pm' nx'→G.R pm' nx' s'→T true s') (h2:∀ pm' nx' s',no pm' nx'→G.R pm' nx' s'→T false s') :
  wpAny G.M G.A (forIn ifs true fun c r=>if r=true then do let ok ← isTrue c G.env (eval c G.env);pure (ForInStep.yield ok) else pure (ForInStep.yield r)) T NoE s:=by
 unfold AS at h
 split at h
 ·exact wpAny_tests_nil (h1 _ _ _ h hR)
 ·refine wpAny_tests_one ((ar ok 30).2 _ _ _ _ h s _ hR fun b b' _ _ s' q hb hR'=>?_)
  obtain rfl:=hb
  cases b
  ·exact h2 _ _ _ (q.2 rfl) hR'
  ·exact h1 _ _ _ (q.1 rfl) hR'
 ·exact h.elim
def oA (G:Fm) (n:Nat) (It:Nat→Value→Prop) (need:Led) (it:PV) (pm:PM) (nx:Led):Prop :=
 ∀ v s (T:Value→Shared→Prop),it.Is v→G.R pm nx s→(∀ s' I oI O,G.R pm ((I,oI)::nx) s'→(∀ p∈nx,p.1≠I)→Src G.M G.A I n It O need→O 0 oI→T (.ref I) s')→wpAny G.M G.A (pyIter v) T NoE s
section
variable {G:Fm} {pm:PM} {nx:Led}
theorem cP (ok:G.Ok) {l:Addr} {vs:List Value} {k:Nat} (hm:(l,W.listOf vs.toArray k)∈nx):oA G vs.length (fun i v=>vs[i]?=some v) [(l,W.listOf vs.toArray k)] (.v (.ref l)) pm nx:=by
 intro v s T hv hR hT
 obtain rfl:=hv
 have hg:=ok.mem hR hm
 have al:=ok.alloc (o:={ cls:=.type "list_iterator",data:=.fields #[.ref l,.int 0 0] }) rfl hR
 exact wpAny_pyIter_list ⟨_,hg,rfl,_,rfl⟩ (hT _ s.heap.objs.size _ (Jc l) al.1 (fun p hp=>Nat.ne_of_lt (al.2 p hp)) (DB ok.handled (Nat.ne_of_lt (al.2 _ hm)) vs k) ⟨rfl,rfl⟩)
theorem fi (ok:G.Ok) {r:Addr} {a b:Int} {t u v:Tok} {n:Nat} (hr:(r,oz a b t u v)∈nx) (hsm:Builtin.Range.small a b 1=true) (hn:Builtin.Range.rangeSize a b 1=(n:Int)):oA G n (fun i v=>∃ t,v=.int (a + (i:Int)) t) [] (.v (.ref r)) pm nx:=by
 intro v s T hv hR hT
 obtain rfl:=hv
 have al:=ok.alloc (o:={ cls:=.type "range_iterator",data:=.fields #[rawInt a,rawInt (Builtin.Range.rangeSize a b 1),rawInt 1] }) rfl hR
 refine wpAny_pyIter_range (ok.mem hR hr) hsm (hT _ s.heap.objs.size _ (Jd a n) al.1 (fun p hp=>Nat.ne_of_lt (al.2 p hp)) (DD ok.handled a n) fun I h e=>?_)
 show h.get? I=some _
 rw [e,hn]
 simp
theorem nC (ok:G.Ok) {it:PV} {x:Str} (hx:asS it=some x):oA G x.cps.size (SignAt x) [] it pm nx:=by
 intro v s T hv hR hT
 obtain ⟨t,rfl⟩:=aJ hx hv
 have al:=fun ty:String=>ok.alloc (o:={ cls:=.type ty,data:=.fields #[.str x t,.int 0 0] }) rfl hR
 have S:=fun I=>DC (prog:=PySem.Challenge.rw_tc0096_01.prog) (w:=G.w) (I:=I) ok.handled x t
 cases ha:x.cps.all (· < 128)
 ·exact wpAny_pyIter_wide ha (hT _ s.heap.objs.size _ _ (al "str_iterator").1 (fun p hp=>Nat.ne_of_lt ((al "").2 p hp)) (S _) (by unfold strIterType;rw [ha];exact ⟨rfl,rfl⟩))
 ·exact wpAny_pyIter_ascii ha (hT _ s.heap.objs.size _ _ (al "str_ascii_iterator").1 (fun p hp=>Nat.ne_of_lt ((al "").2 p hp)) (S _) (by unfold strIterType;rw [ha];exact ⟨rfl,rfl⟩))
end
def nE (M:Model) (A:Around) (code:Code) (it acc:Value) (env:Env) (target:Expr) (ifs:List Expr) (elt:Expr):Prop :=
 ∀ (R : Result → Shared → Prop) (Inv : Nat → Shared → Prop),
  (∀ n s,Inv n s→wpAny M A (pyNext it) (fun r s₁=>match r with
   | none=>R (.ok .next) s₁
   | some v=>wpAny M A (assign target env v) (fun _ s₂ =>
     wpAny M A (forIn ifs true fun c r=>if r=true then do let ok ← isTrue c env (eval c env);pure (ForInStep.yield ok) else pure (ForInStep.yield r)) (fun ok s₃ =>
      if ok=true then wpAny M A (eval elt env) (fun x s₄=>wpAny M A (call (.builtin "list.append") [acc,x]) (fun _ s₅=>∃ m,m < n∧Inv m s₅) NoE s₄) NoE s₃
      else ∃ m,m < n∧Inv m s₃) NoE s₂) NoE s₁) NoE s)→∀ n s,Inv n s→codeAny M A code R s
theorem a7 {M:Model} {A:Around} {E:Value→Shared→Prop} {α:Type} {t:Sem α} {Q Q':α→Shared→Prop} {s:Shared} (h:wpAny M A t Q NoE s) (hq:∀ v s',Q v s'→Q' v s'):wpAny M A t Q' E s:=wpAny_mono h hq fun _ _ x=>x.elim
theorem Je {w:World} {A:Around} {env:Env} {elt target iter:Expr} {ifs:List Expr} {scope:Scope} {pos:Pos} {it acc:Value} (ht:∀ v,letOwnedTupleGo target it v=pure ():=by intro _;rfl):nE (model PySem.Challenge.rw_tc0096_01.prog w) A (.compLoop (.ListComp elt [⟨target,iter,ifs,0⟩] scope pos) 0 it acc env) it acc env target ifs elt:=by
 refine fun R Inv turn n s h=>codeAny_compLoop_tests Inv (fun n s hI=>a7 (turn n s hI) fun r s₁ h1=>?_) n h ht
 cases r with
 | none=>exact h1
 | some v =>
  refine a7 h1 fun _ s₂ h2=>a7 h2 fun ok s₃ h3=>?_
  cases ok with
  | false=>exact h3
  | true=>exact a7 h3 fun x s₄ h4=>a7 h4 fun _ _ q=>q
section
variable {F:Fm} {scope:Scope} {cl:List (Str×Addr)} {oy:Option Str} {pmO pmE pmB:PM} {σ:Type}
theorem AV {x:Str} {pv:PV} {b:PM}:∀ {a:PM},look (a++b) x=some pv→look a x=some pv∨look b x=some pv:=by
 intro zz
 induction zz with
 | nil =>
  intro h
  exact .inr h
 | cons p r ih =>
  intro h
  have h:(match sEq p.1 x with | true=>some p.2 | false=>look (r++b) x)=some pv:=h
  show (match sEq p.1 x with | true=>some p.2 | false=>look r x)=some pv∨_
  cases e:sEq p.1 x with
  | true=>rw [e] at h;exact .inl h
  | false=>rw [e] at h;exact ih h
theorem Fm.cR.cap {K Cc:Addr} {tr nx:Led} {s:Shared} (hE:capE F scope cl oy pmO pmE) (h:F.cR scope cl (ownOf oy K) Cc pmO tr pmB nx s):F.cR scope cl (ownOf oy K) Cc pmO tr (pmB++pmE) nx s:=by
 obtain ⟨oC,m₂,cm,os,hR,hO,Y,a1,a2,a3,ft⟩:=h
 exact ⟨oC,m₂,cm,os,hR,hO,Y,a1,a2,a3,fun x pv hl=>(AV hl).elim (ft x pv) fun hl=>.cap (hE.get K hl)⟩
abbrev GJ (G:Fm) (elt:Expr) (Q:KV):KU:=fun pm nx=>(WW G 30).1 elt pm nx Q
abbrev Kk (G:Fm) (ifs:List Expr) (elt:Expr) (Qy:KV) (Qn:PM→Led→Prop):KU:=fun pm nx=>AS G ifs pm nx (GJ G elt Qy) Qn
def ElT (F:Fm) (scope:Scope) (cl:List (Str×Addr)) (oy:Option Str) (pmO pmB pmE:PM) (elt:Expr) (ifs:List Expr) (x:Str) (u:Nat→PV) (led:σ→Led) (P:Nat→List Value→σ→Prop) (n:Nat):Prop :=
 ∀ i ys c, i < n → P i ys c → ∀ κ : CfK, (F.cfk scope cl oy κ).Ok → ∀ (Qy : KV) (Qn : PM → Led → Prop), (∀ pv pm nx c', (∀ y, pv.Is y → P (i + 1) (ys ++ [y]) c') → (∀ p ∈ led c', p ∈ nx) → Sub pmB pm → Qy pv pm nx) → (∀ pm nx c', P (i + 1) ys c' → (∀ p ∈ led c', p ∈ nx) → Sub pmB pm → Qn pm nx) →
  fS (F.cfk scope cl oy κ) x (u i) (pmB++pmE) (led c) (Kk (F.cfk scope cl oy κ) ifs elt Qy Qn)
inductive GK (F:Fm) (scope:Scope) (cl own:List (Str×Addr)) (pmO pmB:PM) (Cc I D:Addr) (n:Nat) (t0:Led) (O:Nat→Obj→Prop) (P:Nat→List Value→σ→Prop) (led:σ→Led) (k:Nat) (s:Shared):Prop
 | mk (i:Nat) (ys:List Value) (c:σ) (oI:Obj):k=n + 1 - i→i≤n→O i oI→P i ys c→(∀ p∈led c,p.1≠I∧p.1≠D∧∀ q∈t0,p.1≠q.1)→F.cR scope cl own Cc pmO [] pmB ((I,oI)::(D,LCg.lst ys)::(t0++led c)) s→GK F scope cl own pmO pmB Cc I D n t0 O P led k s
def Jf (pmB:PM) (led:σ→Led) (P:List Value→σ→Prop) (ys:List Value) (pv:PV) (pm:PM) (nx:Led):Prop:=(∃ c',(∀ y,pv.Is y→P (ys++[y]) c')∧∀ p∈led c',p∈nx)∧Sub pmB pm
def Jg (pmB:PM) (led:σ→Led) (P:List Value→σ→Prop) (ys:List Value) (pm:PM) (nx:Led):Prop:=(∃ c',P ys c'∧∀ p∈led c',p∈nx)∧Sub pmB pm
theorem nF (ok:F.Ok) {elt:Expr} {ifs:List Expr} {x:Str} {px:Pos} {need t0:Led} {s:Shared} {I D Cc K:Addr} {oI:Obj} {n:Nat} {It:Nat→Value→Prop} {O:Nat→Obj→Prop} (u:Nat→PV) (led:σ→Led) (P:Nat→List Value→σ→Prop) (c₀:σ) {ys₀:List Value} {code:Code} {R:Result→Shared→Prop}
  (hk:scope.kind=.function) (hE:capE F scope cl oy pmO pmE) (S:Src F.M F.A I n It O need) (hu:∀ i v,It i v→(u i).Is v) (hsz:∀ i ys c,i < n→P i ys c→ys.length≤1000) (rule:nE F.M F.A code (.ref I) (.ref D) (compEnvC scope (ownOf oy K++cl) Cc F.env) (.Name x px) ifs elt)
  (hneed:∀ i ys c,P i ys c→∀ p∈need,p∈led c) (h0:P 0 ys₀ c₀) (hO:O 0 oI) (hDI:D≠I) (ht0:∀ p∈t0,p.1≠I∧p.1≠D) (hl0:∀ p∈led c₀,p.1≠I∧p.1≠D∧∀ q∈t0,p.1≠q.1) (turn:ElT F scope cl oy pmO pmB pmE elt ifs x u led P n)
  (hR:F.cR scope cl (ownOf oy K) Cc pmO [] (pmB++pmE) ((I,oI)::(D,LCg.lst ys₀)::(t0++led c₀)) s)
  (done:∀ ys c s',P n ys c→(∀ p∈led c,p.1≠D∧∀ q∈t0,p.1≠q.1)→F.cR scope cl (ownOf oy K) Cc pmO [] (pmB++pmE) ((D,LCg.lst ys)::(t0++led c)) s'→R (.ok .next) s'):codeAny F.M F.A code R s:=by
 have okG:∀ tr,(F.cf scope cl (ownOf oy K) Cc pmO tr).Ok:=fun tr=>Fm.cfOk ok hk (dK K).1 (dK K).2
 refine rule R (GK F scope cl (ownOf oy K) pmO (pmB++pmE) Cc I D n t0 O P led) ?_ (n + 1) s (.mk 0 ys₀ c₀ oI rfl (Nat.zero_le _) hO h0 hl0 hR)
 rintro k s₁ ⟨i,ys,c,oI,rfl,hi,hO,hP,hled,hR1⟩
 have off2:∀ p∈(D,LCg.lst ys)::(t0++led c),p.1≠I:=fun p hp=>by
  rcases cnX hp with rfl | hp
  ·exact hDI
  ·exact (apX hp).elim (fun hp=>(ht0 p hp).1) fun hp=>(hled p hp).1
 have nd:∀ p∈need,p∈(D,LCg.lst ys)::(t0++led c):=fun p hp=>.tail _ (apR (hneed i ys c hP p hp))
 rcases Nat.lt_or_ge i n with hlt | hge
 ·refine rd (okG []) S hlt hO nd off2 hR1 fun v s₂ oI2 hv hO2 hR2=>?_
  have hst:=turn i ys c hlt hP ⟨Cc,K,F.cR scope cl (ownOf oy K) Cc pmO ((I,oI2)::(D,LCg.lst ys)::t0)⟩ (okG _) (Jf pmB led (P (i + 1)) ys) (Jg pmB led (P (i + 1)) ys) (fun pv _ _ c' h1 h2 h3=>⟨⟨c',h1,h2⟩,h3⟩) fun _ _ c' h1 h2 h3=>⟨⟨c',h1,h2⟩,h3⟩
  have hd:F.cR scope cl (ownOf oy K) Cc pmO ((I,oI2)::(D,LCg.lst ys)::t0) (pmB++pmE) (led c) s₂:=Fm.cR.down (tr:=(I,oI2)::(D,LCg.lst ys)::t0) hR2 fun p hp q hq=>by
   obtain ⟨h1,h2,h3⟩:=hled p hp
   rcases cnX hq with rfl | hq
   ·exact h1
   ·rcases cnX hq with rfl | hq
    ·exact h2
    ·exact h3 q hq
  have apart:∀ {pm nx s},(F.cf scope cl (ownOf oy K) Cc pmO ((I,oI2)::(D,LCg.lst ys)::t0)).R pm nx s→∀ p∈nx,p.1≠I∧p.1≠D∧∀ q∈t0,p.1≠q.1:=fun h p hp=>by
   obtain ⟨_,_,_,_,_,_,_,_,_,a3,_⟩:=h
   exact ⟨a3 p hp _ (.head _),a3 p hp _ (.tail _ (.head _)),fun q hq=>a3 p hp q (.tail _ (.tail _ hq))⟩
  refine wpAny_assign_Name (c6 (okG _) hst v (hu i v hv) _ _ hd fun _ _ pm3 nx3 s3 h3 _ hR3=>?_)
  refine AU (okG _) h3 hR3 (fun pm4 nx4 s4 h4 hR4=>?_) fun pm4 nx4 s4 h4 hR4=>?_
  ·rw [if_pos rfl]
   refine (ar (okG _) 30).1 _ _ _ _ h4 s4 _ hR4 fun pv y pm5 nx5 s5 h5 hy hR5=>?_
   obtain ⟨⟨c',hP',hl'⟩,hsub⟩:=h5
   have hap:=apart hR5
   refine (okG []).turn (l:=D) (o:=LCg.lst ys) (Fm.cR.up hR5) (.tail _ (.head _)) fun m rest Fr' N hr mk=>?_
   refine append_K Fr' N (Upd.head hr) (fun h' F' N'=>?_) (by rw [List.size_toArray,sizeLine_eq];have:=hsz i ys c hlt hP;lia)
   rw [show W.listOf (ys.toArray.push y) (ys.length + 1)=LCg.lst (ys++[y]) from LCg.lst_snoc ys y] at N'
   refine ⟨n + 1 - (i + 1),by lia,.mk (i + 1) (ys++[y]) c' oI2 rfl hlt hO2 (hP' y hy) (fun p hp=>hap p (hl' p hp)) (Fm.cR.cap hE ((okG []).pms (mk h' s5.toks (LCg.lst (ys++[y])) ((I,oI2)::(D,LCg.lst (ys++[y]))::(t0++led c')) F' N' fun p hp=>?_) hsub))⟩
   rcases cnX hp with rfl | hp
   ·exact .inr ⟨.head _,Ne.symm hDI⟩
   ·rcases cnX hp with rfl | hp
    ·exact .inl rfl
    ·refine .inr ⟨.tail _ (.tail _ ?_),?_⟩
     ·exact (apX hp).elim (apL) fun hp=>apR (hl' p hp)
     ·exact (apX hp).elim (fun hp=>(ht0 p hp).2) fun hp=>(hap p (hl' p hp)).2.1
  ·rw [if_neg Bool.false_ne_true]
   obtain ⟨⟨c',hP',hl'⟩,hsub⟩:=h4
   have hap:=apart hR4
   refine ⟨n + 1 - (i + 1),by lia,.mk (i + 1) ys c' oI2 rfl hlt hO2 hP' (fun p hp=>hap p (hl' p hp)) (Fm.cR.cap hE ((okG []).sub (Fm.cR.up hR4) hsub fun p hp=>?_))⟩
   rcases cnX hp with rfl | hp
   ·exact .head _
   ·rcases cnX hp with rfl | hp
    ·exact .tail _ (.head _)
    ·exact .tail _ (.tail _ ((apX hp).elim (apL) fun hp=>apR (hl' p hp)))
 ·obtain rfl:i=n:=Nat.le_antisymm hi hge
  exact tS (okG []) S hO nd off2 hR1 fun s2 hR2=>done ys c s2 hP (fun p hp=>(hled p hp).2) hR2
theorem nG (ok:F.Ok) {nx:Led} {s:Shared} {I:Addr} {oI:Obj} {T:Value→Env→Shared→Prop} (hk:scope.kind=.function) (hcf:∀ k,cellsFrom k scope.names cl=ownOf oy k++cl) (hpc:∀ h,pushCells h scope.names=wa oy h) (hE:capE F scope cl oy pmO pmE)
  (hoff:∀ p∈nx,p.1≠I) (hR:F.R pmO ((I,oI)::nx) s)
  (h:∀ D Cc K s',D≠I→(∀ p∈nx,p.1≠D)→F.cR scope cl (ownOf oy K) Cc pmO [] pmE ((I,oI)::(D,LCg.lst [])::nx) s'→T (.ref D) { (compEnvC scope (ownOf oy K++cl) Cc F.env) with scope:=scope } s') :
  wpAny F.M F.A (newList []) (fun acc s₃=>wpAny F.M F.A (newFunctionEnv scope F.env.globals cl [] F.env.qual none .none (some F.env)) (T acc) NoE s₃) NoE s:=by
 have al:=ok.alloc (o:=LCg.lst []) rfl hR
 refine wpAny_newObj_type (pd ok hk hcf hpc hE al.1 fun Cc K s' hCc hR'=>h _ Cc K s' (Nat.ne_of_gt (al.2 _ (.head _))) (fun p hp=>Nat.ne_of_lt (al.2 p (.tail _ hp))) ?_) (Nat.zero_le _)
 obtain ⟨oC,m₂,cm,os,R2,hns,Y,a1,a2,a3,ft⟩:=hR'
 have sw:∀ p∈(I,oI)::(s.heap.objs.size,LCg.lst [])::nx,p∈(s.heap.objs.size,LCg.lst [])::(I,oI)::nx:=fun p hp=>by
  rcases cnX hp with rfl | hp
  ·exact .tail _ (.head _)
  ·rcases cnX hp with rfl | hp
   ·exact .head _
   ·exact .tail _ (.tail _ hp)
 refine ⟨oC,m₂,cm,os,ok.led R2 fun p hp=>?_,hns,Y,fun p hp=>a1 p (sw p hp),a2,fun p hp q hq=>(nomatch hq),ft⟩
 rcases cnX hp with rfl | hp
 ·exact .head _
 ·rcases apX hp with hp | hp
  ·exact .tail _ (apL hp)
  ·exact .tail _ (apR (sw p hp))
def wb (F:Fm) (scope:Scope) (cl:List (Str×Addr)) (e:Expr) (na:Sem Value) (use:Option (Value→Sem Unit)) (it:PV) (pm:PM) (nx:Led) (Q:PM→Led→Addr→Prop):Prop :=
 ∀ v s (T : Value → Shared → Prop), it.Is v → F.R pm nx s → (∀ E pm' nx' Cc oC m₂ s', Q pm' nx' E → LCg.NsObj oC m₂ → (∀ p ∈ nx', p.1 ≠ Cc) → F.R pm' ((Cc, oC) :: nx') s' → compPost F.M F.A NoE use T (.ref E) Cc (.ok .next) s') →
  wpAny F.M F.A (pyIter v) (fun itv s₂=>wpAny F.M F.A na (fun acc s₃=>wpAny F.M F.A (newFunctionEnv scope F.env.globals cl [] F.env.qual none .none (some F.env)) (fun cenv s₄ =>
   codeAny F.M F.A (.compStart e 0 itv acc { cenv with scope:=relabel scope F.env }) (compPost F.M F.A NoE use T acc cenv.locals) s₄) NoE s₃) NoE s₂) NoE s
abbrev AW (F:Fm) (scope:Scope) (cl:List (Str×Addr)) (e:Expr) (na:Sem Value) (use:Option (Value→Sem Unit)) (Q:PM→Led→Addr→Prop):KV:=fun it pm nx=>wb F scope cl e na use it pm nx Q
abbrev Jh (Q:KV):PM→Led→Addr→Prop:=fun pm nx E=>Q (.v (.ref E)) pm nx
abbrev Ji (y:Str) (Q:KF):PM→Led→Addr→Prop:=fun pm nx E=>Q .next (put y (.v (.ref E)) pm) nx
theorem bu (ok:F.Ok) {elt iter:Expr} {ifs:List Expr} {x:Str} {px pos:Pos} {it:PV} {nx need:Led} {n:Nat} {It:Nat→Value→Prop} (pmE:PM) (u:Nat→PV) (led:σ→Led) (P:Nat→List Value→σ→Prop) (c₀:σ) {use:Option (Value→Sem Unit)} {Q:PM→Led→Addr→Prop}
  (S:oA F n It need it pmO nx) (hE:capE F scope cl oy pmO pmE) (hu:∀ i v,It i v→(u i).Is v) (hsz:∀ i ys c,i < n→P i ys c→ys.length≤1000) (hneed:∀ i ys c,P i ys c→∀ p∈need,p∈led c) (h0:P 0 [] c₀∧∀ p∈led c₀,p∈nx)
  (turn:ElT F scope cl oy pmO [] pmE elt ifs x u led P n) (done:∀ ys c E,P n ys c→(∀ p∈led c,p.1≠E)→Q pmO ((E,W.listOf ys.toArray ys.length)::led c) E)
  (hk:scope.kind=.function:=by rfl) (hcf:∀ k,cellsFrom k scope.names cl=ownOf oy k++cl:=by exact fun _=>rfl) (hpc:∀ h,pushCells h scope.names=wa oy h:=by exact fun _=>rfl):wb F scope cl (.ListComp elt [⟨.Name x px,iter,ifs,0⟩] scope pos) (newList []) use it pmO nx Q:=by
 intro v s T hv hR hT
 refine S v s _ hv hR fun s₁ I oI O hR1 hoff Sr hO=>nG (oy:=oy) (pmE:=pmE) ok hk hcf hpc hE hoff hR1 fun D Cc K s₂ hDI hD hR2=>?_
 have okG:(F.cf scope cl (ownOf oy K) Cc pmO []).Ok:=Fm.cfOk ok hk (dK K).1 (dK K).2
 have start:∀ s',F.cR scope cl (ownOf oy K) Cc pmO [] pmE ((I,oI)::(D,LCg.lst [])::nx) s'→codeAny F.M F.A (.compLoop (.ListComp elt [⟨.Name x px,iter,ifs,0⟩] scope pos) 0 (.ref I) (.ref D) (compEnvC scope (ownOf oy K++cl) Cc F.env)) (compPost F.M F.A NoE use T (.ref D) Cc) s':=fun s' hR' =>
  nF ok (t0:=[]) (pmB:=[]) u led P c₀ hk hE Sr hu hsz Je hneed h0.1 hO hDI (fun p hp=>nomatch hp) (fun p hp=>⟨hoff p (h0.2 p hp),hD p (h0.2 p hp),fun q hq=>nomatch hq⟩) turn (okG.led hR' fun p hp=>by
   rcases cnX hp with rfl | hp
   ·exact .head _
   ·rcases cnX hp with rfl | hp
    ·exact .tail _ (.head _)
    ·exact .tail _ (.tail _ (h0.2 p hp))) fun ys c s3 hP hled hR3=>by
   obtain ⟨oC,m₂,cm,os,R2,hns,Y,a1,a2,a3,ft⟩:=hR3
   exact hT D pmO _ Cc oC m₂ s3 (done ys c D hP fun p hp=>(hled p hp).1) hns (fun p hp=>(a1 p hp).1) (ok.led R2 fun p hp=>by
    rcases cnX hp with rfl | hp
    ·exact .head _
    ·exact .tail _ (apR hp))
 exact codeAny_compStart_list (start _ hR2) (Sr.self 0 _ oI _ _ hO (okG.mem hR2 (.head _)) (kN okG hR2 fun p hp=>.tail _ (.tail _ (h0.2 p (hneed 0 [] c₀ h0.1 p hp)))) (start _ hR2))
theorem rf (ok:F.Ok) {pm:PM} {nx:Led} {s:Shared} {l:Addr} {o:Obj} {h':Heap} (hR:F.R pm ((l,o)::nx) s) (hne:∀ p∈nx,p.1≠l) (hs:Heap.SameBut l s.heap h'):F.R pm nx { s with heap:=h' }:=by
 obtain ⟨m,os,Fr',N,ap,_,mk⟩:=ok.opc hR
 have hN:=N (l,o) (apR (.head _))
 refine mk h' s.toks nx (Fr'.change hs hN.2.1 hN.2.2) (fun p hp=>?_) fun p hp q hq=>ap p hp q (.tail _ hq)
 rcases apX hp with hp | hp
 ·have z:=N p (apL hp)
  exact ⟨(hs.2 p.1 (ap p hp _ (.head _))).trans z.1,z.2⟩
 ·have z:=N p (apR (.tail _ hp))
  exact ⟨(hs.2 p.1 (hne p hp)).trans z.1,z.2⟩
noncomputable def wc (scope:Scope):Bool:=scope.names.all fun y => !(y.2==.local) || scope.names.lookup y.1==some .local
theorem gQ (h:wc scope=true):∀ y∈scope.names,y.2=.local→scope.names.lookup y.1=some .local:=fun y hy e=>by
 have:=List.all_eq_true.mp h y hy
 rw [e] at this
 simpa using this
theorem bF (ok:F.Ok) {elt iter:Expr} {g:List Comprehension} {target:Expr} {ifs:List Expr} {pos:Pos} {pm:PM} {nx:Led} {Q:KV} (hclos:closureFor scope F.env=pure cl) (h:(WW F 30).1 iter pm nx (AW F scope cl (.ListComp elt (⟨target,iter,ifs,0⟩::g) scope pos) (newList []) none (Jh Q)))
  (hsc:wc scope=true:=by rfl) (hk:scope.kind=.function:=by rfl) (hn:q9 iter=true:=by rfl):GoV F (eval (.ListComp elt (⟨target,iter,ifs,0⟩::g) scope pos) F.env) pm nx Q:=by
 intro s T hR hT
 rw [eval_ListComp]
 refine wpAny_comprehension_free (use:=none) rfl (fun x=>?_) hclos hk (gQ hsc) ((ar ok 30).1 _ _ _ _ h s _ hR fun it v pm' nx' s' q hv hR'=>q v s' T hv hR' fun E pm2 nx2 Cc oC m₂ s2 q2 hns hne hR2=>?_)
 ·cases iter <;> first | rfl | exact bA hn
 ·refine ⟨m₂,hns.ns (ok.mem hR2 (.head _)),fun h' hs=>?_⟩
  exact hT _ _ _ _ _ q2 rfl (rf ok hR2 hne hs)
theorem kO (ok:F.Ok) {elt iter:Expr} {g:List Comprehension} {target:Expr} {ifs:List Expr} {pos spos py:Pos} {y:Str} {pm:PM} {nx:Led} {Q:KF} (hclos:closureFor scope F.env=pure cl) (h:(WW F 30).1 iter pm nx (AW F scope cl (.ListComp elt (⟨target,iter,ifs,0⟩::g) scope pos) (newList []) (some (assign (.Name y py) F.env)) (Ji y Q)))
  (hst:F.sto y=true:=by rfl) (hsw:swapsWith (.ListComp elt (⟨target,iter,ifs,0⟩::g) scope pos) (some (.Name y py)) spos.line F.env=pure true:=by rfl) (hsc:wc scope=true:=by rfl) (hk:scope.kind=.function:=by rfl) (hn:q9 iter=true:=by rfl):GoF F (exec (.Assign [.Name y py] (.ListComp elt (⟨target,iter,ifs,0⟩::g) scope pos) spos) F.env) pm nx Q:=by
 intro s T hR hT
 rw [exec_Assign_Name_used _ _ _ _ hsw]
 refine wpAny_bind (wpAny_standAt (wpAny_bind ?_))
 show wpAny _ F.A (do let _ ← comprehension (.ListComp elt (⟨target,iter,ifs,0⟩::g) scope pos) scope F.env _ (newList []) false (eval iter F.env) (some (assign (.Name y py) F.env))) _ _ s
 refine wpAny_bind (wpAny_mono (wpAny_comprehension_free (use:=some (assign (.Name y py) F.env)) (Q:=fun _ s'=>T .next s') rfl (fun x=>?_) hclos hk (gQ hsc) ((ar ok 30).1 _ _ _ _ h s _ hR fun it v pm' nx' s' q hv hR'=>q v s' (fun _ s'=>T .next s') hv hR' fun E pm2 nx2 Cc oC m₂ s2 q2 hns hne hR2=>?_)) (fun _ s' hq=>wpAny_pure (wpAny_pure hq)) fun _ _ e=>e)
 ·cases iter <;> first | rfl | exact bA hn
 ·refine wpAny_assign_Name (ok.store hst hR2 (pv:=.v (.ref E)) rfl fun s3 hR3=>⟨m₂,hns.ns (ok.mem hR3 (.head _)),fun h' hs=>hT _ _ _ _ _ q2 rfl (rf ok hR3 hne hs)⟩)
end
end Mine
end
section
namespace Mine
section
variable {prog:Program} {w:World} {A:Around} {E:Value→Shared→Prop} {R:Result→Shared→Prop} {s:Shared}
theorem DE (elt target iter:Expr) (g1:Comprehension) (ifs:List Expr) (scope:Scope) (pos:Pos) (it acc:Value) (env:Env) :
  compTurn (.ListComp elt [g1,⟨target,iter,ifs,0⟩] scope pos) 1 it acc env=(do
   standAt iter.pos
   match ← pyNext it with
   | none=>pure (.done .next)
   | some v =>
    letOwnedTupleGo target it v
    assign target env v
    let mut ok:=true
    for c in ifs do
     if ok then ok ← isTrue c env (eval c env)
    if ok then
     (do let _ ← call (.builtin "list.append") [acc, ← eval elt env])
    again (.compLoop (.ListComp elt [g1,⟨target,iter,ifs,0⟩] scope pos) 1 it acc env)):=by rfl
theorem AX (elt target iter t2 iter2:Expr) (ifs:List Expr) (scope:Scope) (pos:Pos) (it acc:Value) (env:Env) :
  compTurn (.ListComp elt [⟨target,iter,[],0⟩,⟨t2,iter2,ifs,0⟩] scope pos) 0 it acc env=(do
   standAt iter.pos
   match ← pyNext it with
   | none=>pure (.done .next)
   | some v =>
    letOwnedTupleGo target it v
    assign target env v
    let x ← eval iter2 env
    standAt iter2.pos
    let x ← foldedSetIterable iter2 env x
    let _ ← runOwn (.compStart (.ListComp elt [⟨target,iter,[],0⟩,⟨t2,iter2,ifs,0⟩] scope pos) 1 (← holding [x] (pyIter x)) acc env) env
    again (.compLoop (.ListComp elt [⟨target,iter,[],0⟩,⟨t2,iter2,ifs,0⟩] scope pos) 0 it acc env)):=by rfl
theorem Jj {elt target iter:Expr} {g1:Comprehension} {ifs:List Expr} {scope:Scope} {pos:Pos} {it acc:Value} {env:Env} (ht:∀ v,letOwnedTupleGo target it v=pure ():=by intro _;rfl) :
  nE (model prog w) A (.compLoop (.ListComp elt [g1,⟨target,iter,ifs,0⟩] scope pos) 1 it acc env) it acc env target ifs elt:=by
 refine fun R Inv turn n s h=>codeAny_loop rfl Inv (fun n s hI=>?_) n h
 show wpAny _ A ((compTurn (.ListComp elt [g1,⟨target,iter,ifs,0⟩] scope pos) 1 it acc env).onRaise (fun x=>do noteFrame x env;theTreesLotGoes x)) _ _ s
 refine wpAny_noted ?_
 rw [DE]
 refine wpAny_bind (wpAny_standAt (wpAny_bind (a7 (turn n s hI) fun r s₁ h₁=>?_)))
 cases r with
 | none=>exact wpAny_pure h₁
 | some v =>
  refine wpAny_bind (wpAny_of_eq (ht v) ?_)
  refine wpAny_bind (a7 h₁ fun _ s₂ h₂=>wpAny_bind (a7 h₂ fun ok s₃ h₃=>?_))
  cases ok with
  | false=>exact wpAny_pure ⟨rfl,h₃⟩
  | true=>exact wpAny_bind (wpAny_bind (a7 h₃ fun x s₄ h₄=>wpAny_bind (a7 h₄ fun _ s₅ h₅=>wpAny_pure (wpAny_pure ⟨rfl,h₅⟩))))
theorem AY {elt target iter:Expr} {g1:Comprehension} {ifs scope pos it acc env}
  (h0:codeAny (model prog w) A (.compLoop (.ListComp elt [g1,⟨target,iter,ifs,0⟩] scope pos) 1 it acc env) R s)
  (h:wpAny (model prog w) A (pyIter it) (fun it' s'=>codeAny (model prog w) A (.compLoop (.ListComp elt [g1,⟨target,iter,ifs,0⟩] scope pos) 1 it' acc env) R s')
   (notedBy (model prog w) A env fun x s'=>R (.error x) s') s) :
  codeAny (model prog w) A (.compStart (.ListComp elt [g1,⟨target,iter,ifs,0⟩] scope pos) 1 it acc env) R s:=by
 refine codeAny_of_tree ?_
 show wpAny _ _ ((compStart (.ListComp elt [g1,⟨target,iter,ifs,0⟩] scope pos) 1 it acc env).onRaise (fun x=>do noteFrame x env;standAt theWindowsPlace)) _ _ s
 refine wpAny_notedAt ?_
 unfold compStart
 show wpAny _ _ (ask >>= _) _ _ s
 refine wpAny_bind (wpAny_askSetting (wpAny_ite ?_))
 split
 ·first
   | exact wpAny_bind (wpAny_pure (wpAny_pure (And.intro rfl h0)))
   | exact wpAny_pure (And.intro rfl h0)
 ·first
   | exact wpAny_bind (wpAny_rule (wpAny_bind (wpAny_standAt (wpAny_bind (wpAny_mono h (fun it' s' h'=>wpAny_pure (And.intro rfl h')) fun _ _ x=>x)))))
   | (refine wpAny_bind (wpAny_rule ?_);show wpAny _ _ (standAt iter.pos >>= _) _ _ s;exact wpAny_bind (wpAny_standAt (wpAny_bind (wpAny_mono h (fun it' s' h'=>wpAny_pure (And.intro rfl h')) fun _ _ x=>x))))
theorem AZ {elt target iter t2 iter2:Expr} {ifs:List Expr} {scope:Scope} {pos:Pos} {it acc:Value} {env:Env} (I:Nat→Shared→Prop)
  (turn:∀ n s,I n s→wpAny (model prog w) A (pyNext it) (fun r s₁=>match r with
   | none=>R (.ok .next) s₁
   | some v=>wpAny (model prog w) A (assign target env v) (fun _ s₂=>wpAny (model prog w) A (eval iter2 env) (fun xv s₃=>wpAny (model prog w) A (pyIter xv) (fun it2 s₄ =>
     ∀ R2:Result→Shared→Prop,(∀ s' m,m < n→I m s'→R2 (.ok .next) s')→codeAny (model prog w) A (.compStart (.ListComp elt [⟨target,iter,[],0⟩,⟨t2,iter2,ifs,0⟩] scope pos) 1 it2 acc env) R2 s₄)
     NoE s₃) NoE s₂) NoE s₁) NoE s)
  (n:Nat) (h:I n s) (hs:∀ x,foldedSetIterable iter2 env x=pure x) (ht:∀ v,letOwnedTupleGo target it v=pure ():=by intro _;rfl) :
  codeAny (model prog w) A (.compLoop (.ListComp elt [⟨target,iter,[],0⟩,⟨t2,iter2,ifs,0⟩] scope pos) 0 it acc env) R s:=by
 refine codeAny_loop rfl I (fun n s hI=>?_) n h
 show wpAny _ A ((compTurn (.ListComp elt [⟨target,iter,[],0⟩,⟨t2,iter2,ifs,0⟩] scope pos) 0 it acc env).onRaise (fun x=>do noteFrame x env;theTreesLotGoes x)) _ _ s
 refine wpAny_noted ?_
 rw [AX]
 refine wpAny_bind (wpAny_standAt (wpAny_bind (a7 (turn n s hI) fun r s₁ h₁=>?_)))
 cases r with
 | none=>exact wpAny_pure h₁
 | some v =>
  refine wpAny_bind (wpAny_of_eq (ht v) ?_)
  refine wpAny_bind (a7 h₁ fun _ s₂ h₂=>wpAny_bind (a7 h₂ fun xv s₃ h₃=>wpAny_bind (wpAny_standAt (wpAny_bind (wpAny_of_eq (hs xv) ?_)))))
  refine wpAny_bind (wpAny_holding (a7 h₃ fun it2 s₄ h₄=>?_))
  refine wpAny_bind (wpAny_runOwn (h₄ _ fun s' m hm hI'=>?_))
  exact wpAny_pure ⟨rfl,m,hm,hI'⟩
end
section
variable {F:Fm} {scope:Scope} {cl:List (Str×Addr)} {oy:Option Str} {pmO:PM} {σ:Type}
def Jk (G:Fm) (n2:Nat) (It2:Nat→Value→Prop) (need2:Led) (pmS:PM) (lc:Led):KV:=fun it pm nx=>oA G n2 It2 need2 it pm nx∧Sub pmS pm∧∀ p∈lc,p∈nx
theorem nH (ok:F.Ok) {elt iter iter2:Expr} {ifs:List Expr} {x x1:Str} {px px1 pos:Pos} {it:PV} {nx need need2:Led} {n1 n2:Nat} {It It2:Nat→Value→Prop} (pmE:PM) (u1 u2:Nat→PV) (led:σ→Led) (P:Nat→Nat→List Value→σ→Prop) (c₀:σ) {use:Option (Value→Sem Unit)} {Q:PM→Led→Addr→Prop}
  (S:oA F n1 It need it pmO nx) (hE:capE F scope cl oy pmO pmE) (hu1:∀ i v,It i v→(u1 i).Is v) (hu2:∀ i v,It2 i v→(u2 i).Is v) (hsz:∀ i j ys c,i < n1→j < n2→P i j ys c→ys.length≤1000) (hneed:∀ i j ys c,P i j ys c→(∀ p∈need,p∈led c)∧∀ p∈need2,p∈led c) (h0:P 0 0 [] c₀∧∀ p∈led c₀,p∈nx)
  (next:∀ i ys c,i < n1→P i n2 ys c→P (i + 1) 0 ys c)
  (src2:∀ i ys c,i < n1→P i 0 ys c→∀ κ:CfK,(F.cfk scope cl oy κ).Ok→∀ Qs:KV,(∀ it pm nx,oA (F.cfk scope cl oy κ) n2 It2 need2 it pm nx→Sub [(x1,u1 i)] pm→(∀ p∈led c,p∈nx)→Qs it pm nx)→fS (F.cfk scope cl oy κ) x1 (u1 i) pmE (led c) (GJ (F.cfk scope cl oy κ) iter2 Qs))
  (turn:∀ i,i < n1→ElT F scope cl oy pmO [(x1,u1 i)] pmE elt ifs x u2 led (P i) n2) (done:∀ ys c E,P n1 0 ys c→(∀ p∈led c,p.1≠E)→Q pmO ((E,W.listOf ys.toArray ys.length)::led c) E)
  (hk:scope.kind=.function:=by rfl) (hcf:∀ k,cellsFrom k scope.names cl=ownOf oy k++cl:=by exact fun _=>rfl) (hpc:∀ h,pushCells h scope.names=wa oy h:=by exact fun _=>rfl) (hs2:∀ env x,foldedSetIterable iter2 env x=pure x:=by intro _ _;rfl):wb F scope cl (.ListComp elt [⟨.Name x1 px1,iter,[],0⟩,⟨.Name x px,iter2,ifs,0⟩] scope pos) (newList []) use it pmO nx Q:=by
 intro v s T hv hR hT
 refine S v s _ hv hR fun s₁ I oI O hR1 hoff Sr hO=>nG (oy:=oy) (pmE:=pmE) ok hk hcf hpc hE hoff hR1 fun D Cc K s₂ hDI hD hR2=>?_
 have okG:∀ tr,(F.cf scope cl (ownOf oy K) Cc pmO tr).Ok:=fun tr=>Fm.cfOk ok hk (dK K).1 (dK K).2
 have start:∀ s',F.cR scope cl (ownOf oy K) Cc pmO [] pmE ((I,oI)::(D,LCg.lst [])::nx) s'→codeAny F.M F.A (.compLoop (.ListComp elt [⟨.Name x1 px1,iter,[],0⟩,⟨.Name x px,iter2,ifs,0⟩] scope pos) 0 (.ref I) (.ref D) (compEnvC scope (ownOf oy K++cl) Cc F.env)) (compPost F.M F.A NoE use T (.ref D) Cc) s':=by
  intro s' hR'
  refine AZ (GK F scope cl (ownOf oy K) pmO pmE Cc I D n1 [] O (fun i ys c=>P i 0 ys c) led) ?_ (n1 + 1) (.mk 0 [] c₀ oI rfl (Nat.zero_le _) hO h0.1 (fun p hp=>⟨hoff p (h0.2 p hp),hD p (h0.2 p hp),fun q hq=>nomatch hq⟩) ((okG []).led hR' fun p hp=>?_)) (hs2 _)
  ·rintro k s₁ ⟨i,ys,c,oI,rfl,hi,hO,hP,hled,hR1⟩
   have off2:∀ p∈(D,LCg.lst ys)::led c,p.1≠I:=fun p hp=>by
    rcases cnX hp with rfl | hp
    ·exact hDI
    ·exact (hled p hp).1
   have nd:∀ p∈need,p∈(D,LCg.lst ys)::led c:=fun p hp=>.tail _ ((hneed i 0 ys c hP).1 p hp)
   rcases Nat.lt_or_ge i n1 with hlt | hge
   ·refine rd (okG []) Sr hlt hO nd off2 hR1 fun v s₂ oI2 hv hO2 hR2=>?_
    have hd:F.cR scope cl (ownOf oy K) Cc pmO [(I,oI2),(D,LCg.lst ys)] pmE (led c) s₂:=Fm.cR.down (tr:=[(I,oI2),(D,LCg.lst ys)]) hR2 fun p hp q hq=>by
     rcases cnX hq with rfl | hq
     ·exact (hled p hp).1
     ·rw [sgX hq];exact (hled p hp).2.1
    refine wpAny_assign_Name (c6 (okG _) (src2 i ys c hlt hP ⟨Cc,K,F.cR scope cl (ownOf oy K) Cc pmO [(I,oI2),(D,LCg.lst ys)]⟩ (okG _) (Jk (F.cf scope cl (ownOf oy K) Cc pmO [(I,oI2),(D,LCg.lst ys)]) n2 It2 need2 [(x1,u1 i)] (led c)) fun _ _ _ h1 h2 h3=>⟨h1,h2,h3⟩) v (hu1 i v hv) _ _ hd fun _ _ pm3 nx3 s3 h3 _ hR3=>?_)
    refine (ar (okG _) 30).1 _ _ _ _ h3 s3 _ hR3 fun it2 xv pm4 nx4 s4 q hxv hR4=>?_
    obtain ⟨hS2,hsub,hl4⟩:=q
    refine hS2 xv s4 _ hxv hR4 fun s5 I2 oI2' O2 hR5 hoff2 Sr2 hO20=>?_
    have apt:∀ p∈(I2,oI2')::nx4,∀ q∈[(I,oI2),(D,LCg.lst ys)],p.1≠q.1:=by
     obtain ⟨_,_,_,_,_,_,_,_,_,a3,_⟩:=hR5
     exact a3
    have hI2:I2≠I:=apt _ (.head _) _ (.head _)
    have hI2D:I2≠D:=apt _ (.head _) _ (.tail _ (.head _))
    intro R2 hR2'
    have hR6:F.cR scope cl (ownOf oy K) Cc pmO [] ([(x1,u1 i)]++pmE) ((I2,oI2')::(D,LCg.lst ys)::([(I,oI2)]++led c)) s5:=Fm.cR.cap hE ((okG []).sub (Fm.cR.up hR5) hsub fun p hp=>by
     rcases cnX hp with rfl | hp
     ·exact .tail _ (.tail _ (.head _))
     ·rcases cnX hp with rfl | hp
      ·exact .tail _ (.head _)
      ·rcases cnX hp with rfl | hp
       ·exact .head _
       ·exact .tail _ (.tail _ (.tail _ (hl4 p hp))))
    have go:=nF ok (px:=px) (I:=I2) (t0:=[(I,oI2)]) (pmB:=[(x1,u1 i)]) u2 led (P i) c hk hE Sr2 hu2 (fun j ys c hj=>hsz i j ys c hlt hj) (Jj (g1:=⟨.Name x1 px1,iter,[],0⟩) (target:=.Name x px) (scope:=scope) (iter:=iter2) (pos:=pos)) (fun j ys c h=>(hneed i j ys c h).2) hP hO20 (Ne.symm hI2D) (fun p hp=>by rw [sgX hp];exact ⟨Ne.symm hI2,Ne.symm hDI⟩) (fun p hp=>⟨hoff2 p (hl4 p hp),(hled p hp).2.1,fun q hq=>by rw [sgX hq];exact (hled p hp).1⟩) (turn i hlt) (R:=R2) hR6 fun ys' c' s6 hP' hl' hR7=>hR2' s6 (n1 + 1 - (i + 1)) (by lia) (.mk (i + 1) ys' c' oI2 rfl hlt hO2 (next i ys' c' hlt hP') (fun p hp=>⟨(hl' p hp).2 _ (.head _),(hl' p hp).1,fun q hq=>nomatch hq⟩) (Fm.cR.cap (pmB:=[]) hE ((okG []).sub hR7 trivial fun p hp=>by
      rcases cnX hp with rfl | hp
      ·exact .tail _ (.head _)
      ·rcases cnX hp with rfl | hp
       ·exact .head _
       ·exact .tail _ (.tail _ hp))))
    exact AY go (Sr2.self 0 _ oI2' _ _ hO20 ((okG []).mem hR6 (.head _)) (kN (okG []) hR6 fun p hp=>.tail _ (.tail _ (.tail _ ((hneed i 0 ys c hP).2 p hp)))) go)
   ·obtain rfl:i=n1:=Nat.le_antisymm hi hge
    refine tS (okG []) Sr hO nd off2 hR1 fun s2 hR2=>?_
    obtain ⟨oC,m₂,cm,os,R2,hns,Y,a1,a2,a3,ft⟩:=hR2
    exact hT D pmO _ Cc oC m₂ s2 (done ys c D hP fun p hp=>(hled p hp).2.1) hns (fun p hp=>(a1 p hp).1) (ok.led R2 fun p hp=>by
     rcases cnX hp with rfl | hp
     ·exact .head _
     ·exact .tail _ (apR hp))
  ·rcases cnX hp with rfl | hp
   ·exact .head _
   ·rcases cnX hp with rfl | hp
    ·exact .tail _ (.head _)
    ·exact .tail _ (.tail _ (h0.2 p hp))
 exact codeAny_compStart_list (start _ hR2) (Sr.self 0 _ oI _ _ hO ((okG []).mem hR2 (.head _)) (kN (okG []) hR2 fun p hp=>.tail _ (.tail _ (h0.2 p ((hneed 0 0 [] c₀ h0.1).1 p hp)))) (start _ hR2))
end
end Mine
end
section
namespace Mine
abbrev A0 (A:PM→Led→KU→Prop) (Q:KU):KU:=fun pm nx=>A pm nx Q
def kQ (F:Fm):List Str→List PV→PM→Led→KU→Prop
 | [],_,pm,nx,Q=>Q pm nx
 | x :: xs, vs, pm, nx, Q => (match vs with
  | v::vs=>fS F x v pm nx (A0 (kQ F xs vs) Q)
  | []=>False)
noncomputable def namesOf:List Expr→Option (List Str)
 | []=>some []
 | t :: r => (match t with
  | .Name x _=>(match namesOf r with | some l=>some (x::l) | none=>none)
  | _=>none)
theorem kR {t:Expr} {r:List Expr} {xs:List Str} (h:namesOf (t::r)=some xs):∃ x p l,t=.Name x p∧namesOf r=some l∧xs=x::l:=by
 cases t <;> try exact aV h
 rename_i x p
 have h:(match namesOf r with | some l=>some (x::l) | none=>none)=some xs:=h
 cases e:namesOf r with
 | none=>rw [e] at h;exact aV h
 | some l=>rw [e] at h;cases h;exact ⟨x,p,l,rfl,rfl,rfl⟩
theorem kT (env:Env):∀ {ts:List Expr} {xs:List Str},namesOf ts=some xs→(assignEach ts env).length=xs.length∧(assignEach ts env).findIdx? (·.1)=none:=by
 intro zz
 induction zz with
 | nil =>
  intro xs h
  cases h;exact ⟨rfl,rfl⟩
 | cons t ts ih =>
  intro xs h
  obtain ⟨x,p,l,rfl,h1,rfl⟩:=kR h
  obtain ⟨h2,h3⟩:=ih h1
  refine ⟨congrArg Nat.succ h2,?_⟩
  show List.findIdx? _ ((false,assign (.Name x p) env)::assignEach ts env)=none
  rw [List.findIdx?_cons,h3];rfl
theorem mn {F:Fm} (ok:F.Ok):∀ {ts:List Expr} {xs:List Str} {vs:List PV} {pm nx} {Q:KU},namesOf ts=some xs→kQ F xs vs pm nx Q→∀ ys,AllIs vs ys→GoU F (assignInOrder ((assignEach ts F.env).map (·.2)) ys) pm nx Q:=by
 intro zz
 induction zz with
 | nil =>
  intro xs vs pm nx Q hn h ys hy
  cases hn
  exact fun s P hR hP=>assignInOrder_nil (hP () _ _ _ _ h rfl hR)
 | cons t ts ih =>
  intro xs vs pm nx Q hn h ys hy
  obtain ⟨x,p,l,rfl,h1,rfl⟩:=kR hn
  cases hy with
  | nil=>exact h.elim
  | @cons q u qs us hv hr =>
   have h:fS F x q pm nx (A0 (kQ F l qs) Q):=h
   exact fun s P hR hP=>assignInOrder_cons (PyProof.Rows.assign_Name (c6 ok h u hv s _ hR fun _ _ pm1 nx1 s1 h2 _ hR1=>ih h1 h2 us hr s1 _ hR1 hP))
theorem DF {F:Fm} (ok:F.Ok):∀ {xs:List Str} {vs:List PV} {pm nx} {Q:KU},kQ F xs vs pm nx Q→∀ ys,AllIs vs ys→GoU F (assignInOrder (xs.map fun n=>bindName F.env n) ys) pm nx Q:=by
 intro zz
 induction zz with
 | nil =>
  intro vs pm nx Q h ys hy
  exact fun s P hR hP=>assignInOrder_nil (hP () _ _ _ _ h rfl hR)
 | cons x xs ih =>
  intro vs pm nx Q h ys hy
  cases hy with
  | nil=>exact h.elim
  | @cons q u qs us hv hr =>
   have h:fS F x q pm nx (A0 (kQ F xs qs) Q):=h
   exact fun s P hR hP=>assignInOrder_cons (bindName_ (c6 ok h u hv s _ hR fun _ _ pm1 nx1 s1 h2 _ hR1=>ih h2 us hr s1 _ hR1 hP))
theorem AllIs.rev:∀ {a:List PV} {x:List Value},AllIs a x→AllIs a.reverse x.reverse:=by
 intro z0 z1 zz
 induction zz with
 | nil =>
  exact .nil
 | cons h r ih =>
  rw [List.reverse_cons,List.reverse_cons];exact ih.append (.cons h .nil)
section
variable {C:Cx} {w:World} {sc:Scope} {pm:PM} {nx:Led} {D:Nat}
def GL (C:Cx) (w:World) (sc:Scope) (xs:List Str) (v:PV) (pm:PM) (nx:Led) (Q:KU):Prop :=
 ∃ T vs items n,v=.v (.ref T)∧(T,({ cls:=.type "tuple",data:=.seq items n }:Obj))∈nx∧AllIs vs items.toList∧vs.length=xs.length∧kQ (C.fm w sc) xs vs pm nx Q
theorem kU {s:Shared} (hC:C.Ok w sc D) {G:Prop} (h:C.R sc pm nx s) (k:∀ m news,Fr C.h₀ C.L s.heap m→News C.h₀ C.L s.heap news→(∀ p∈nx,p∈news)→(∀ h' tk',Fr C.h₀ C.L h' m→News C.h₀ C.L h' news→C.R sc pm nx { s with heap:=h',toks:=tk' })→G):G :=
 Cx.R.open h fun m os F N ap mk=>k m _ F N (fun _ h=>apR h) fun h' tk' F' N'=>mk h' tk' nx F' N' ap
abbrev Kl (C:Cx) (w:World) (sc:Scope) (xs:List Str) (Q:KF):KV:=fun v pm nx=>GL C w sc xs v pm nx (Q .next)
abbrev Jl (F:Fm) (xs:List Str) (Q:KF):KL:=fun vs pm nx=>vs.length=xs.length∧kQ F xs vs pm nx (Q .next)
abbrev Jm (F:Fm) (xs:List Str) (Q:KF):KL:=fun vs pm nx=>vs.length=xs.length∧kQ F xs.reverse vs.reverse pm nx (Q .next)
theorem iU (hC:C.Ok w sc D) {ts:List Expr} {k:Nat} {tp pos:Pos} {value:Expr} {xs:List Str} {Q:KF} (hn:namesOf ts=some xs) (h:(WW (C.fm w sc) 30).1 value pm nx (Kl C w sc xs Q))
  (hs:swapsWithSole [.Tuple ts k tp] value pos.line (C.fm w sc).env=pure false:=by rfl) (hw:swappedStores [.Tuple ts k tp] value (C.fm w sc).env=pure none:=by rfl):GoF (C.fm w sc) (exec (.Assign [.Tuple ts k tp] value pos) (C.fm w sc).env) pm nx Q:=by
 refine fun s P hR hP=>Assign_Tuple ((ar (Cx.fmOk hC) 30).1 _ _ _ _ h s _ hR fun v x _ _ s1 q hv hR1=>?_) hs hw
 obtain ⟨T,vs,items,n,rfl,hm,hvs,hl,hst⟩:=q
 obtain rfl:=hv
 obtain ⟨e1,e2⟩:=kT (C.fm w sc).env hn
 refine kU hC hR1 fun m news F N sub mk=>unpackN_ F N (News.isTup N (sub _ hm)) rfl ?_ e2 fun h' F' N'=>mn (Cx.fmOk hC) hn hst _ hvs _ _ (mk h' s1.toks F' N') fun _ _ _ _ s2 h2 _ hR2=>hP _ _ _ _ _ h2 rfl hR2
 rw [e1, ← hl, ← hvs.length,Array.length_toList]
theorem mq (hC:C.Ok w sc D) {ts es:List Expr} {k k2:Nat} {tp p2 pos:Pos} {xs:List Str} {Q:KF} (hn:namesOf ts=some xs) (hl:es.length=xs.length∧es.length≤1000) (h:bN (WW (C.fm w sc) 30).1 es pm nx (Jl (C.fm w sc) xs Q))
  (hw:swappedStores [.Tuple ts k tp] (.Tuple es k2 p2) (C.fm w sc).env=pure none:=by rfl):GoF (C.fm w sc) (exec (.Assign [.Tuple ts k tp] (.Tuple es k2 p2) pos) (C.fm w sc).env) pm nx Q:=by
 have ok:=Cx.fmOk hC
 refine fun s P hR hP=>Assign_Tuple (Tuple_ (bS (ar ok 30).1 _ h hR fun vs as pm1 nx1 s1 q hv hR1=>?_)) rfl hw
 obtain ⟨hl2,hst⟩:=q
 obtain ⟨e1,e2⟩:=kT (C.fm w sc).env hn
 refine kU hC hR1 fun m news F N sub mk=>newTuple_N F N (fun h' F' N'=>?_) ?_
 ·refine unpackN_ F' N' (News.isTup N' (.head _)) rfl ?_ e2 fun h'' F'' N''=>mn ok hn hst _ (by simpa using hv) _ _ (mk h'' s1.toks F'' (News.of N'' fun p hp=>.tail _ hp)) fun _ _ _ _ s2 h2 _ hR2=>hP _ _ _ _ _ h2 rfl hR2
  rw [e1, ← hl2, ← hv.length,List.size_toArray]
 ·rw [hv.length,hl2, ← hl.1];exact Nat.le_trans hl.2 (aD rfl)
theorem wd (hC:C.Ok w sc D) {ts es:List Expr} {k k2:Nat} {tp p2 pos:Pos} (xs:List Str) {Q:KF} (hl:es.length=xs.length∧es.length≤1000) (h:bN (WW (C.fm w sc) 30).1 es pm nx (Jm (C.fm w sc) xs Q))
  (hw:swappedStores [.Tuple ts k tp] (.Tuple es k2 p2) (C.fm w sc).env=pure (some xs):=by rfl):GoF (C.fm w sc) (exec (.Assign [.Tuple ts k tp] (.Tuple es k2 p2) pos) (C.fm w sc).env) pm nx Q:=by
 have ok:=Cx.fmOk hC
 refine fun s P hR hP=>Assign_Tuple_swapped (Tuple_ (bS (ar ok 30).1 _ h hR fun vs as pm1 nx1 s1 q hv hR1=>?_)) rfl hw
 obtain ⟨hl2,hst⟩:=q
 refine kU hC hR1 fun m news F N sub mk=>newTuple_N F N (fun h' F' N'=>?_) ?_
 ·refine unpackItemsN_ F' N' (News.isTup N' (.head _)) rfl ?_ fun h'' F'' N''=>?_
  ·rw [List.size_toArray,hv.length,hl2]
  ·have:=DF ok hst _ hv.rev _ (fun u s'=>P .next s') (mk h'' s1.toks F'' (News.of N'' fun p hp=>.tail _ hp)) fun _ _ _ _ s2 h2 _ hR2=>hP _ _ _ _ _ h2 rfl hR2
   exact this
 ·rw [hv.length,hl2, ← hl.1];exact Nat.le_trans hl.2 (aD rfl)
theorem A1 (hC:C.Ok w sc D) {y:Str} {py pos:Pos} {value:Expr} {Q:KF} (hs:swapsWith value (some (.Name y py)) pos.line (C.fm w sc).env=pure false) (h:GoV (C.fm w sc) (eval value (C.fm w sc).env) pm nx (GC (C.fm w sc) y Q)):GoF (C.fm w sc) (exec (.Assign [.Name y py] value pos) (C.fm w sc).env) pm nx Q :=
 fun s P hR hP=>wpAny_Assign_Name (h s _ hR fun v x _ _ s1 h1 hx hR1=>c6 (Cx.fmOk hC) h1 x hx s1 _ hR1 fun _ _ _ _ s2 h2 _ hR2=>hP _ _ _ _ _ h2 rfl hR2) hs
end
end Mine
end
section
namespace Mine
theorem xw {prog:Program} {w:World} {A:Around} (hh:A.handled=none) (it:Addr) (x:Str) (t:Tok) :
  Draws prog w A it [it] x.cps.size (fun i v=>∃ c u,x.cps[i]?=some c∧v=.str ⟨#[c]⟩ u) (fun i h=>h.IsStrIter it (strIterType x) x t i):=by
 unfold strIterType
 cases x.cps.all (· < 128)
 ·exact Draws.strWide hh it x t
 ·exact Draws.strAscii hh it x t
section
variable {prog:Program} {w:World} {A:Around} {E:Value→Shared→Prop} {s:Shared} {env:Env} {h₀:Heap} {body:List Stmt} {Q:Flow→Shared→Prop}
noncomputable def iV (x:Str):List Itm:=(List.range x.cps.size).map fun (i:Nat)=>Itm.pairF (fun t=>Value.int (i:Int) t) (.str (one (x.cps.toList.getD i 0)))
theorem su {elts:List Expr} {k:Nat} {pos:Pos} {x:Str} {t:Tok} {m₀:Str→Option Value} {news:List (Addr×Obj)}
  (hh:A.handled=none) (F:Fr h₀ env.locals s.heap m₀) (N:News h₀ env.locals s.heap news)
  (rest₀:∀ I:Addr,(∀ p∈news,p.1 < I)→ItemsRest prog w A E h₀ env (.Tuple elts k pos) body Q s [(I + 1,"enumerate"),(I,strIterType x)] [] (iV x) m₀ news) :
  wpAny (model prog w) A (call (.type "enumerate") [.str x t]) (fun xv s₁=>wpAny (model prog w) A (pyIter xv) (fun it s₂=>TurnsAt prog w A h₀ env (.Tuple elts k pos) body Q E it s₂) E s₁) E s:=by
 have hLs:env.locals < s.heap.objs.size:=F.ns.lt
 refine call_enumerate_str fun h' hE hI hsz hk=>?_
 refine wpAny_pyIter_enum hE ?_
 refine ktu_core (tk0:=s.toks) (keep:=[]) (KTurns.ofWalksU (WalksT.enumerateD (xw (prog:=prog) (w:=w) (A:=A.in1) hh s.heap.objs.size x t) (s.heap.objs.size + 1) (Nat.succ_ne_self _) (fun hm=>Nat.succ_ne_self _ (sgX hm)) (List.mem_singleton.mpr rfl)).toU) (by simp [iV]) ?_ ?_ ?_ ?_ ?_ ?_ ?_ ?_ (F.keeps hk) (N.grown hk) trivial (rest₀ _ fun p hp=>Heap.lt_size (N p hp).1)
 ·rintro i v h ⟨T,vals,rfl,⟨t,x',⟨c,u,hc,rfl⟩,rfl⟩,hT⟩
  have hi:i < x.cps.size:=(Array.getElem?_eq_some_iff.mp hc).1
  refine ⟨Itm.pairF (fun t=>Value.int (i:Int) t) (.str (one (x.cps.toList.getD i 0))),by unfold iV;rw [List.getElem?_map,List.getElem?_range hi];rfl,T,t,.str ⟨#[c]⟩ u,rfl,?_,hT⟩
  have e:x.cps.toList.getD i 0=c:=by
   rw [List.getD_eq_getElem?_getD,Array.getElem?_toList,hc];rfl
  rw [e]
  exact PyProof.V.Flat.str _ _
 ·rintro i h ⟨⟨old,he⟩,⟨oi,hoi,hic,_⟩⟩
  have he':∃ oe:Obj,h.get? (s.heap.objs.size + 1)=some oe∧oe.cls=.type "enumerate":=⟨_,he,rfl⟩
  obtain ⟨oe,h1,h2⟩:=he'
  refine ⟨[(s.heap.objs.size + 1,oe),(s.heap.objs.size,oi)],⟨⟨rfl,h2⟩,⟨rfl,hic⟩,trivial⟩,fun p hp=>?_⟩
  rcases cnX hp with rfl | hp
  ·exact h1
  ·rw [sgX hp];exact hoi
 ·intro b hb
  have hb':b=s.heap.objs.size + 1∨b=s.heap.objs.size:=by simpa using hb
  rcases hb' with rfl | rfl
  ·exact ⟨by simp,ktu_new F (Nat.le_add_right _ _)⟩
  ·exact ⟨by simp,ktu_new F (Nat.le_refl _)⟩
 ·intro b hb
  simpa using hb
 ·intro b hb
  have hb':b=s.heap.objs.size + 1∨b=s.heap.objs.size:=by simpa using hb
  rcases hb' with rfl | rfl
  ·exact .inl (by simp)
  ·exact .inl (by simp)
 ·intro hI'
  have hb':env.locals=s.heap.objs.size + 1∨env.locals=s.heap.objs.size:=by simpa using hI'
  rcases hb' with e | e
  ·exact ktu_ne 1 hLs e
  ·exact Nat.ne_of_lt hLs e
 ·intro p hp hI'
  have hb':p.1=s.heap.objs.size + 1∨p.1=s.heap.objs.size:=by simpa using hI'
  have hlp:=Heap.lt_size (N p hp).1
  rcases hb' with e | e
  ·exact ktu_ne 1 hlp e
  ·exact Nat.ne_of_lt hlp e
 ·exact ⟨⟨.none,hE⟩,hI⟩
end
section
variable {C:Cx} {w:World} {sc:Scope} {pm:PM} {nx:Led} {D:Nat}
def A2 (C:Cx) (w:World) (sc:Scope) (target:Expr) (body:List Stmt) (vs:List PV) (pm:PM) (nx:Led) (Q:KF):Prop :=
 ∀ xs s (T : Flow → Shared → Prop), AllIs vs xs → C.R sc pm nx s → (∀ f fl pm' nx' s', Q f pm' nx' → f.Is fl → C.R sc pm' nx' s' → T fl s') →
  wpAny (C.fm w sc).M (C.fm w sc).A (call (.type "enumerate") xs) (fun xv s₁=>wpAny (C.fm w sc).M (C.fm w sc).A (pyIter xv) (fun itv s₂=>TurnsAt PySem.Challenge.rw_tc0096_01.prog w (C.fm w sc).A C.h₀ (C.fm w sc).env target body T NoE itv s₂) NoE s₁) NoE s
abbrev Jn (C:Cx) (w:World) (sc:Scope) (target:Expr) (body:List Stmt) (Q:KF):KL:=fun vs pm nx=>A2 C w sc target body vs pm nx Q
theorem mu (hC:C.Ok w sc D) {target e:Expr} {es:List Expr} {x:Str} {p pos pos2:Pos} {body:List Stmt} {Q:KF} (h:bN (WW (C.fm w sc) 30).1 (e::es) pm nx (Jn C w sc target body Q))
  (hg:(WW (C.fm w sc) 30).1 (.Name x p) pm nx fun v pm' nx'=>v=.v (.type "enumerate")∧pm'=pm∧nx'=nx) (hp:a8 es=true:=by rfl):GoF (C.fm w sc) (exec (.For target (.Call (.Name x p) (e::es) [] pos) body [] pos2) (C.fm w sc).env) pm nx Q:=by
 intro s T hR hT
 have ok:=Cx.fmOk hC
 refine Cx.R.open hR fun m os F N ap mk=>?_
 refine For_turns F (Call_ ((ar ok 30).1 _ _ _ _ hg s _ hR fun v x _ _ s1 q hv hR1=>?_)) (fun x=>rfl) PassesOwn.never
 obtain ⟨rfl,rfl,rfl⟩:=q
 obtain rfl:=hv
 exact callWith_type1 (bS (ar ok 30).1 _ h hR1 fun vs as pm' nx' s' q hv hR'=>q as s' T hv hR' hT) (aW (bh h) _ _) (plain_any hp)
theorem we (hC:C.Ok w sc D) {ts:List Expr} {k:Nat} {tp:Pos} {xs:List Str} {us:List PV} {a:Itm} {Q:KU} (hn:namesOf ts=some xs) (hl:us.length=xs.length) (hu:∀ v h,a.Is v h→∃ T vs,v=.ref T∧IsTup h T vs∧AllIs us vs.toList) (h:kQ (C.fm w sc) xs us pm nx Q):Dx C w sc (.Tuple ts k tp) a pm nx Q:=by
 intro v s P hv hR hP
 obtain ⟨T,vs,rfl,ht,hvs⟩:=hu v _ hv
 obtain ⟨e1,e2⟩:=kT (C.fm w sc).env hn
 refine kU hC hR fun m news F N sub mk=>unpackN_ F N ht rfl ?_ e2 fun h' F' N'=>mn (Cx.fmOk hC) hn h _ hvs _ _ (mk h' s.toks F' N') fun _ _ pm2 nx2 s2 h2 _ hR2=>hP pm2 nx2 s2 h2 hR2
 rw [e1, ← hl, ← hvs.length,Array.length_toList]
theorem Jo {os:Led} {I:Addr} {c d:String} (h:∀ p∈os,p.1 < I):∀ p∈os,p.1∉[(I + 1,c),(I,d)].map (·.1):=fun p hp hm=>by
 have:=h p hp
 rcases cnX hm with e | hm
 ·exact Nat.ne_of_lt (Nat.lt_succ_of_lt this) e
 ·exact Nat.ne_of_lt this (sgX hm)
theorem pe (hC:C.Ok w sc D) {l:Addr} {vs:List Value} {k:Nat} {σ:Type} (ps:σ→PM) (led:σ→Led) (P:Nat→σ→Prop) (c₀:σ) {ts:List Expr} {tk:Nat} {tp:Pos} {x y:Str} {body:List Stmt} {Q:KF}
  (hkeep:∀ i c,P i c→(l,W.listOf vs.toArray k)∈led c) (h0:P 0 c₀∧Sub (ps c₀) pm∧∀ p∈led c₀,p∈nx)
  (turn:∀ i c its,i < vs.length→P i c→(∀ p∈led c,∀ q∈its,p.1≠q.1)→∀ Q':KF,l8 (P (i + 1)) ps led its Q'→sj Q Q'→oX (fun u=>∀ v,vs[i]?=some v→u.Is v) (its++led c) fun u X=>kQ (C.fm w sc) [x,y] [.i (i:Int),u] (ps c) X (kM (C.fm w sc) body Q'))
  (done:∀ c,P vs.length c→Q .next (ps c) (led c)) (hn:namesOf ts=some [x,y]:=by rfl):A2 C w sc (.Tuple ts tk tp) body [.v (.ref l)] pm nx Q:=by
 intro xs s T hv hR hT
 obtain ⟨v,h1⟩:=AllIs.one hv
 obtain rfl:=h1
 have hlen:(enumItems 0 vs).length=vs.length:=enumItems_length _ _
 obtain ⟨m,os,F,N,hrest⟩:=gO hC ps led P (xs:=enumItems 0 vs) (target:=.Tuple ts tk tp) (keep:=[(l,W.listOf vs.toArray k)]) c₀ (fun i c hp p hq=>sgX hq▸hkeep i c hp) h0 (fun i c its hi a b Q' d e=>by
  obtain ⟨u,X,h1,h2,h3⟩:=turn i c its (hlen▸hi) a b Q' d e
  refine ⟨X,h2,fun a ha=>we hC hn rfl (fun v h hv=>?_) h3⟩
  have hi':i < vs.length:=hlen▸hi
  rw [enumItems_get vs 0 i (List.getElem?_eq_getElem hi')] at ha
  cases ha
  obtain ⟨T,t,e,ht⟩:=hv
  refine ⟨T,_,e,ht,.cons ⟨t,?_⟩ (.cons (h1 _ (List.getElem?_eq_getElem hi')) .nil)⟩
  rw [Nat.zero_add]) (by rw [hlen];exact done) hR hT
 exact ktu_enum rfl F N (apR (hkeep 0 c₀ h0.1)) rfl rfl rfl fun I hI=>hrest _ (Jo hI)
theorem sv (hC:C.Ok w sc D) {it:PV} {z:Str} {n:Nat} {σ:Type} (ps:σ→PM) (led:σ→Led) (P:Nat→σ→Prop) (c₀:σ) {ts:List Expr} {tk:Nat} {tp:Pos} {x y:Str} {body:List Stmt} {Q:KF} (hz:asS it=some z) (hlz:z.cps.toList.length=n)
  (h0:P 0 c₀∧Sub (ps c₀) pm∧∀ p∈led c₀,p∈nx)
  (turn:∀ i c its,i < n→P i c→(∀ p∈led c,∀ q∈its,p.1≠q.1)→∀ Q':KF,l8 (P (i + 1)) ps led its Q'→sj Q Q'→v5 (its++led c) fun X=>kQ (C.fm w sc) [x,y] [.i (i:Int),.s (one (z.cps.toList.getD i 0))] (ps c) X (kM (C.fm w sc) body Q'))
  (done:∀ c,P n c→Q .next (ps c) (led c)) (hn:namesOf ts=some [x,y]:=by rfl):A2 C w sc (.Tuple ts tk tp) body [it] pm nx Q:=by
 intro xs s T hv hR hT
 obtain ⟨v,h1⟩:=AllIs.one hv
 obtain ⟨t,rfl⟩:=aJ hz h1
 have hlen:(iV z).length=n:=by simpa [iV] using hlz
 obtain ⟨m,os,F,N,hrest⟩:=gO hC ps led P (xs:=iV z) (target:=.Tuple ts tk tp) (keep:=[]) c₀ (fun i c _ p hq=>nomatch hq) h0 (fun i c its hi a b Q' d e=>by
  obtain ⟨X,h2,h3⟩:=turn i c its (hlen▸hi) a b Q' d e
  refine ⟨X,h2,fun a ha=>we hC hn rfl (fun v h hv=>?_) h3⟩
  unfold iV at ha
  rw [List.getElem?_map] at ha
  cases e:(List.range z.cps.size)[i]? with
  | none=>rw [e] at ha;exact aV ha
  | some j =>
   rw [e] at ha
   obtain ⟨hl,hj⟩:=List.getElem?_eq_some_iff.mp e
   rw [List.getElem_range] at hj
   subst hj
   cases ha
   obtain ⟨T,t,x,e,hx,ht⟩:=hv
   obtain ⟨u,rfl⟩:=PyProof.V.Flat.str_inv hx
   exact ⟨T,_,e,ht,.cons ⟨t,rfl⟩ (.cons ⟨u,rfl⟩ .nil)⟩) (by rw [hlen];exact done) hR hT
 exact su rfl F N fun I hI=>hrest _ (Jo hI)
end
end Mine
end
section
namespace Mine
section
variable {F:Fm} {pm:PM} {nx:Led}
theorem A3 (ok:F.Ok) {a b:PV} {m n:Int} {Q:KV} (ha:asI a=some m) (hb:asI b=some n) (h0:0≤n) (h1:n≤1000000) (h2:m.natAbs < 2 ^ 64) (h:Q (.i (m ^ n.toNat)) pm nx):fg F .Pow a b pm nx Q:=by
 intro x y hx hy s P hR hP
 obtain ⟨t,rfl⟩:=au ha hx
 obtain ⟨u,rfl⟩:=au hb hy
 exact pow_int_small h0 h1 h2 (hP _ _ _ _ _ h ⟨_,rfl⟩ (ok.toks _ hR))
theorem A4 (ok:F.Ok) {a:PV} {n:Int} {Q:KV} (ha:asI a=some n) (h0:0≤n) (h1:n≤1114111) (h:Q (.s (one n.toNat)) pm nx):aI F (.builtin "chr") [a] pm nx Q:=by
 refine dB fun x hx s P hR hP=>?_
 obtain ⟨t,rfl⟩:=au ha hx
 exact chr_of_range h0 h1 (hP _ _ _ _ _ h ⟨_,rfl⟩ (ok.toks _ hR))
theorem GN (ok:F.Ok) {a:PV} {z:Str} {c:Nat} {Q:KV} (ha:asS a=some z) (hz:z=one c) (h:Q (.i (c:Int)) pm nx):aI F (.builtin "ord") [a] pm nx Q:=by
 refine dB fun x hx s P hR hP=>?_
 obtain ⟨t,rfl⟩:=aJ ha hx
 subst hz
 exact PySem.P.ord_of_char (hP _ _ _ _ _ h ⟨_,rfl⟩ (ok.toks _ hR))
theorem sx (ok:F.Ok) {a b:PV} {y z:Str} {r:Bool} {Q:KV} (ha:asS a=some y) (hb:asS b=some z) (hr:(!(Builtin.Str.occurrences z y 0 z.length 1).isEmpty)=r) (h:Q (.v (.bool r)) pm nx):dE F .In a b pm nx Q:=by
 intro u v hu hv s P hR hP
 obtain ⟨t,rfl⟩:=aJ ha hu
 obtain ⟨t',rfl⟩:=aJ hb hv
 subst hr
 exact in_str (hP _ _ _ _ _ h rfl hR)
theorem tT (ok:F.Ok) {a:PV} {x y z:Str} {u v:Tok} {Q:KV} (ha:asS a=some x) (hu:u≠0) (hv:v≠0) (huv:u≠v) (hyz:(y==z)=false) (hx:x.length≤1048576) (hz:z.length≤14) (h:Q (.s (Txt.replace x y z)) pm nx):aI F (.builtin "str.replace") [a,.v (.str y u),.v (.str z v)] pm nx Q:=by
 refine gN fun x1 x2 x3 h1 h2 h3 s P hR hP=>?_
 obtain ⟨t,rfl⟩:=aJ ha h1
 obtain rfl:=h2;obtain rfl:=h3
 exact SC.replaceW hu hv huv hyz hx hz fun t' k=>hP _ _ _ _ _ h ⟨_,rfl⟩ (ok.toks _ hR)
theorem xx (ok:F.Ok) {a b:PV} {m n:Int} {Q:KV} (ha:asI a=some m) (hb:asI b=some n) (h:∀ r t u v,(∀ p∈nx,p.1 < r)→Q (.v (.ref r)) pm ((r,oz m n t u v)::nx)):aI F (.type "range") [a,b] pm nx Q:=by
 refine call2 fun x y hx hy s P hR hP=>?_
 obtain ⟨t,rfl⟩:=au ha hx
 obtain ⟨u,rfl⟩:=au hb hy
 refine call_range_2 ?_
 have al:=ok.alloc (o:=oz m n t u s.toks) rfl hR
 exact hP _ _ _ _ _ (h _ _ _ _ al.2) rfl (ok.toks _ al.1)
end
section
variable {C:Cx} {w:World} {sc:Scope} {pm:PM} {nx:Led} {D:Nat}
theorem rg (hC:C.Ok w sc D) {r:Addr} {a b:Int} {t u v:Tok} {n:Nat} {Q:KV} (hr:(r,oz a b t u v)∈nx) (hsm:Builtin.Range.small a b 1=true) (hn:Builtin.Range.rangeSize a b 1=(n:Int)) (hl:n≤2 ^ 24)
  (h:∀ E ys k,IntsAre ys (rangeInts a 1 n)→(∀ p∈nx,p.1 < E)→Q (.v (.ref E)) pm ((E,W.listOf ys.toArray k)::nx)):aI (C.fm w sc) (.type "list") [.v (.ref r)] pm nx Q:=by
 refine dB fun x hx s P hR hP=>?_
 obtain rfl:=hx
 refine Cx.R.open hR fun m os F N ap mk=>?_
 have low:∀ p∈os++nx,p.1 < s.heap.objs.size:=fun p hp=>Heap.lt_size (N p hp).1
 refine list_rangeD rfl F N (hR.get hr) hsm hn hl fun h' tk ys F' N' hk h0 _ hp hy=>?_
 obtain ⟨⟨c',hc⟩,_⟩:=hp
 refine hP _ _ _ _ _ (h _ ys c' (by simpa using hy.intsOf) fun p hp=>low p (apR hp)) rfl (mk h' tk _ F' (fun p hp=>?_) fun p hp q hq=>?_)
 ·rcases apX hp with hp | hp
  ·exact N' p (apL hp)
  ·rcases cnX hp with rfl | hp
   ·exact ⟨hc,Nat.ne_of_gt F.ns.lt,h0⟩
   ·exact N' p (apR hp)
 ·rcases cnX hq with rfl | hq
  ·exact Nat.ne_of_lt (low p (apL hp))
  ·exact ap p hp q hq
end
section
variable {F:Fm} {pm:PM} {nx:Led}
theorem sy (ok:F.Ok) {a i:Expr} {pi:PV} {T:Addr} {vs:Array Value} {n:Nat} {k:Nat} {x:Value} {Q:KV} (hm:(T,({ cls:=.type "tuple",data:=.seq vs n }:Obj))∈nx) (hi:asI pi=some (k:Int)) (hx:vs[k]?=some x) (hs:vs.size≤1000) (h:Q (.v x) pm nx) (hn:bO i=true:=by rfl) (hg:∀ r,letTemporaryGo a (.ref T) r=pure ():=by intro _;rfl):ow F a i (.v (.ref T)) pi pm nx Q:=by
 intro y z hy hz s P hR hP
 obtain rfl:=hy
 obtain ⟨t,rfl⟩:=au hi hz
 have hk:k < vs.size:=(Array.getElem?_eq_some_iff.mp hx).1
 have ht:IsTup s.heap T vs:=⟨_,ok.mem hR hm,rfl,_,rfl⟩
 refine item_tuple ht (by lia) (by lia) (seqIndex_of (Int.natCast_nonneg _) (by lia)) (by simpa using hx) (hP _ _ _ _ _ h rfl hR) ?_ hg
 cases i <;> first | with_unfolding_all rfl | exact bA hn
inductive PairsL (led:Led):List Value→List (Str×Str)→Prop
 | nil:PairsL led [] []
 | cons {vs es} (a:Addr) (x y:Str) (t u:Tok):(a,({ cls:=.type "tuple",data:=.seq #[.str x t,.str y u] }:Obj))∈led→t≠0→u≠0→t≠u→PairsL led vs es→PairsL led (.ref a::vs) ((x,y)::es)
theorem PairsL.of {l l':Led} {vs es} (h:PairsL l vs es) (hs:∀ p∈l,p∈l'):PairsL l' vs es:=by
 induction h with
 | nil=>exact .nil
 | cons a x y t u hm h1 h2 h3 _ ih=>exact .cons a x y t u (hs _ hm) h1 h2 h3 ih
theorem PairsL.length {l:Led} {vs es} (h:PairsL l vs es):vs.length=es.length:=by
 induction h with
 | nil=>rfl
 | cons _ _ _ _ _ _ _ _ _ _ ih=>rw [List.length_cons,List.length_cons,ih]
inductive FI (l:Led) (es:List (Str×Str)) (i:Nat) (v:Value):Prop
 | mk (a:Addr) (x y:Str) (t u:Tok):v=.ref a→es[i]?=some (x,y)→(a,({ cls:=.type "tuple",data:=.seq #[.str x t,.str y u] }:Obj))∈l→t≠0→u≠0→t≠u→FI l es i v
theorem PairsL.get {l:Led} {vs es} (h:PairsL l vs es):∀ (i:Nat) (v:Value),vs[i]?=some v→FI l es i v:=by
 induction h with
 | nil=>intro i v h;cases i <;> exact aV h
 | cons a x y t u hm h1 h2 h3 _ ih =>
  intro i v h
  cases i with
  | zero=>cases h;exact ⟨a,x,y,t,u,rfl,rfl,hm,h1,h2,h3⟩
  | succ i =>
   obtain ⟨a,x,y,t,u,h1,h2,h3,h4,h5,h6⟩:=ih i v h
   exact ⟨a,x,y,t,u,h1,h2,h3,h4,h5,h6⟩
inductive nI:List Expr→List (Str×Str)→Prop
 | nil:nI [] []
 | cons {es ps} (x y:Str) (j k n:Nat) (p q r:Pos):nI es ps→nI (.Tuple [.Constant (.str x) j p,.Constant (.str y) k q] n r::es) ((x,y)::ps)
theorem A5 (ok:F.Ok) (pos:Pos) {es:List Expr} {ps:List (Str×Str)} (h:nI es ps):∀ {nx:Led} {s:Shared} {P:List Value→Shared→Prop},s.toks≠0→F.R pm nx s→(∀ as Z s',PairsL Z as ps→F.R pm (Z++nx) s'→P as s')→wpAny F.M F.A (spliced (backTo pos (starEach es F.env))) P NoE s:=by
 induction h with
 | nil=>exact fun _ hR hP=>args_nil (hP [] [] _ .nil hR)
 | @cons es ps x y j k n p q r _ ih =>
  intro nx s P h0 hR hP
  refine args_cons (Tuple_ (args_cons (wpAny_Constant_str (args_cons (wpAny_Constant_str (args_nil ?_)) rfl)) rfl)) rfl
  have al:=ok.alloc (o:={ cls:=.type "tuple",data:=.seq #[.str x s.toks,.str y (s.toks + 1)] }) rfl hR
  refine wpAny_newObj_type (ih (Nat.succ_ne_zero _) (ok.toks (s.toks + 1 + 1) al.1) fun as Z s' hZ hR'=>hP _ (Z++[(s.heap.objs.size,_)]) s' (.cons _ x y _ _ (apR (.head _)) h0 (Nat.succ_ne_zero _) (Nat.ne_of_lt (Nat.lt_succ_self _)) (hZ.of fun p hp=>apL hp)) ?_) (aD rfl)
  rw [List.append_assoc]
  exact hR'
def DG (F:Fm) (t:Sem Flow) (pm:PM) (nx:Led) (Q:KF):Prop :=
 ∀ s (P:Flow→Shared→Prop),s.toks≠0→F.R pm nx s→(∀ b a pm' nx' s',Q b pm' nx'→FV.Is b a→F.R pm' nx' s'→P a s')→wpAny F.M F.A t P NoE s
theorem xy (ok:F.Ok) {st:Stmt} {ss:List Stmt} {Q:KF} (h:DG F (exec st F.env) pm nx fun f pm nx=>f=.next∧SS F ss pm nx Q):DG F (execs (st::ss) F.env) pm nx Q :=
 fun s P h0 hR hP=>wpAny_execs_cons (h s _ h0 hR fun f fl _ _ s1 h1 hf hR1=>by
  obtain ⟨rfl,h1⟩:=h1
  obtain rfl:=hf
  exact iO ok _ _ _ _ h1 s1 _ hR1 hP)
theorem xA (ok:F.Ok) {x:Str} {p lp pos:Pos} {es:List Expr} {ps:List (Str×Str)} {Q:KF} (hE:nI es ps) (hl:ps.length≤1000) (h:∀ D as Z,PairsL Z as ps→fS F x (.v (.ref D)) pm ((D,W.listOf as.toArray 0)::Z++nx) (Q .next)):DG F (exec (.Assign [.Name x p] (.List es lp) pos) F.env) pm nx Q:=by
 intro s P h0 hR hP
 refine wpAny_Assign_Name (List_ (A5 ok lp hE h0 hR fun as Z s1 hZ hR1=>?_)) rfl
 have al:=ok.alloc (o:=W.listOf as.toArray 0) rfl hR1
 refine wpAny_newObj_type (c6 ok (h _ as Z hZ) _ rfl _ _ al.1 fun _ _ _ _ s2 h2 _ hR2=>hP _ _ _ _ _ h2 rfl hR2) ?_
 show as.toArray.size≤sizeLine
 rw [List.size_toArray,hZ.length]
 exact Nat.le_trans hl (aD rfl)
end
theorem rh {x:Str} {v:Value}:∀ {l:List (Str×Value)},(l.map (·.1)).Nodup→(x,v)∈l→l.lookup x=some v:=by
 intro zz
 induction zz with
 | nil=>exact nofun
 | cons yy r ih =>
  obtain ⟨n,u⟩:=yy
  intro hn hm
  rw [List.map_cons,List.nodup_cons] at hn
  rcases cnX hm with e | hm
  ·cases e
   exact List.lookup_cons_self
  ·have hne:x≠n:=fun e=>hn.1 (by rw [← e];exact List.mem_map_of_mem (f:=(·.1)) hm)
   rw [List.lookup_cons,beq_false_of_ne hne]
   exact ih hn.2 hm
noncomputable def wg (sc:Scope):Bool:=sc.names.all fun x=>match x.2 with | .cell=>false | _=>true
theorem tU {sc:Scope} (h:wg sc=true):∀ x∈sc.names,x.2≠.cell:=fun x hx e=>by
 have:=List.all_eq_true.mp h x hx
 rw [e] at this
 exact bA this
theorem sz {x:Str} {k:NameKind}:∀ {l:List (Str×NameKind)},l.lookup x=some k→(x,k)∈l:=by
 intro zz
 induction zz with
 | nil=>exact nofun
 | cons yy r ih =>
  obtain ⟨n,u⟩:=yy
  intro h
  rw [List.lookup_cons] at h
  cases e:x==n with
  | true=>rw [e] at h;cases h;rw [eq_of_beq e];exact .head _
  | false=>rw [e] at h;exact .tail _ (ih h)
theorem GO {w:World} {f:Addr} {vals:List Value} {kw:List (Str×Value)} {D:Nat} {news:Led} {Post:Value→Led→Prop} {name qual:Str} {params:Arguments} {body:List Stmt} {scope:Scope} {dV kV doc pm cdv ct oc:Value} {an od:Option Addr} {osl:Array (Option Value)} (binds:List (Str×Value))
  (ho:(K w.params).lookup f=some ⟨oc,od,.func (fnOf name qual params body scope dV kV doc pm an cdv ct),osl⟩) (hcd:codeIn (K w.params) cdv qual=true)
  (hbind:∀ s:Shared,(K w.params).In s.heap→BindsTo s (fnOf name qual params body scope dV kV doc pm an cdv ct) ⟨vals,kw⟩ binds)
  (hb:(ox scope binds && apart binds && wg scope && !scope.isCoroutine && !scope.isGenerator)=true) (hk:scope.kind=.function) (hz:binds≠[])
  (h:∀ C:Cx,C.Ok w scope D→C.cl=[]→∀ Q:KF,(∀ v pm nx,(∀ y,v.Is y→Post y nx)→Q (.ret v) pm nx)→(∀ pm nx,Post .none nx→Q .next pm nx)→(∀ f pm nx nx0,(∀ p∈nx0,p∈nx)→Q f pm nx0→Q f pm nx)→DG (C.fm w scope) (execs body (C.fm w scope).env) (pm0 binds) news Q) :
  ah w (.ref f) vals kw (D + 1) news Post:=by
 intro p loose mean mg mb dp un gd cn nm b1 b2 mr a ccd cl outer A₀ base h₀ L m s Q E B F X N T hd hu hret
 simp only [Bool.and_eq_true,Bool.not_eq_true'] at hb
 obtain ⟨⟨⟨⟨hst,hap⟩,hns⟩,hco⟩,hgen⟩:=hb
 have hnc:=tU hns
 have hlc:∀ x,scope.names.lookup x≠some .cell:=fun x e=>hnc (x,.cell) (sz e) rfl
 have hloc:∀ y∈binds,scope.names.lookup y.1=some .local:=fun y hy=>(dJ (fh hst y hy)).1.resolve_right (hlc _)
 refine wpAny_call (code_def (binds:=binds) B F X N T rfl rfl rfl ho hcd (by show dp < _;lia) (hbind s (X.keeps F.keep)) hloc ?_ hco hgen hk hnc)
 intro g L' h₁ FG F' N' B' X' T'
 refine wpAny_noRaise ?_
 let C:Cx:=⟨dp + 1,un + 3,gd,qual,L',f,cdv,[],envX cn ⟨.function,nm,b1,b2,mr⟩ L a ccd cl::outer,ktrTop dp un gd cn ⟨.function,nm,b1,b2,mr⟩ L a ccd cl outer,base,g,s,p,loose,mean,mg,mb⟩
 have ok:C.Ok w scope D:=⟨B',X',T',hk,by show dp + 1 + D < _;lia,by show un + 3 + 8 * D < _;lia,List.nodup_nil,List.nodup_nil,fun x hx=>absurd hx (hlc x)⟩
 refine (h C ok rfl (fun f _ nx=>∃ nx0,(∀ p∈nx0,p∈nx)∧match f with | .ret v=>∀ y,v.Is y→Post y nx0 | .next=>Post .none nx0 | _=>False) (fun _ _ nx h=>⟨nx,fun _ h=>h,h⟩) (fun _ nx h=>⟨nx,fun _ h=>h,h⟩) fun _ _ _ _ hs ⟨nx0,h1,h2⟩=>⟨nx0,fun p hp=>hs p (h1 p hp),h2⟩) _ _ ?_ ⟨_,fun _=>none,[],F',N',.nil,fun p hp=>(nomatch hp),fun x pv hl=>?_,h₁,_,rfl⟩ ?_
 ·show s.toks + binds.length≠0
  have:binds.length≠0:=fun e=>hz (List.length_eq_zero_iff.mp e)
  lia
 ·obtain ⟨v,rfl,hm⟩:=kL hl
  refine .loc v (dJ (fh hst _ hm)).2 rfl (hloc _ hm) ?_
  refine rh ?_ (List.mem_reverse.mpr hm)
  rw [List.map_reverse]
  exact (List.reverse_perm _).nodup_iff.mpr (gM hap)
 ·rintro fv fl pm' nx' s' hq hfl ⟨m',cm,os,F2,N2,Y2,ap2,ft2,h2,k2,rfl⟩
  obtain ⟨nx0,hn0,hq⟩:=hq
  refine leaveK_ F2 (News.of N2 fun p hp=>apR (hn0 p hp)) fun F3 N3=>?_
  cases fv with
  | ret pv=>obtain ⟨y,rfl,hy⟩:=hfl;exact hret _ _ _ _ (hq y hy) F3 N3
  | next=>obtain rfl:=hfl;exact hret _ _ _ _ hq F3 N3
  | brk=>exact hq.elim
  | cont=>exact hq.elim
end Mine
end
section
namespace Mine
def FJ (F:Fm) (f:Value) (vs:List PV) (key:Str) (k:PV) (pm:PM) (nx:Led) (Q:KV):Prop:=∀ xs y,AllIs vs xs→k.Is y→GoV F (call f xs [(key,y)]) pm nx Q
section
variable {F:Fm} {pm:PM} {nx:Led}
abbrev Km (F:Fm) (a:Addr) (key:Str) (vs:List PV) (Q:KV):KV:=fun k pm nx=>FJ F (.ref a) vs key k pm nx Q
abbrev kKw (F:Fm) (a:Addr) (key:Str) (value:Expr) (Q:KV):KL:=fun vs pm nx=>(WW F 30).1 value pm nx (Km F a key vs Q)
theorem nJ (ok:F.Ok) {x key:Str} {p kp pos:Pos} {e value:Expr} {es:List Expr} {a:Addr} {Q:KV} (h:bN (WW F 30).1 (e::es) pm nx (kKw F a key value Q))
  (hg:(WW F 30).1 (.Name x p) pm nx fun v pm' nx'=>v=.v (.ref a)∧pm'=pm∧nx'=nx:=by exact ⟨rfl,rfl,rfl⟩) (hf:F.fn a=true:=by rfl):GoV F (eval (.Call (.Name x p) (e::es) [⟨some key,value,kp⟩] pos) F.env) pm nx Q:=by
 intro s P hR hP
 obtain ⟨o,fd,hd,ho⟩:=ok.func hf
 rw [show eval (.Call (.Name x p) (e::es) [⟨some key,value,kp⟩] pos) F.env=(do callWith pos (← eval (.Name x p) F.env) [] (backTo pos (starEach (e::es) F.env)) (backToKw pos (keywordEach [⟨some key,value,kp⟩] F.env))) from rfl]
 refine wpAny_bind ((ar ok 30).1 _ _ _ _ hg s _ hR fun v z _ _ s1 q hv hR1=>?_)
 obtain ⟨rfl,rfl,rfl⟩:=q
 obtain rfl:=hv
 refine callWith_function_kw (o:=o) (fd:=fd) (evalArgs_kw2 rfl (bS (ar ok 30).1 pos h hR1 fun vs as pm' nx' s' q hv hR'=>?_) (aW (bh h) _ _))
 refine kwAll_cons ((ar ok 30).1 _ _ _ _ q s' _ hR' fun k y _ _ s2 h2 hy hR2=>kwAll_nil ⟨⟨ho hR2,hd⟩,?_⟩)
 exact h2 as y hv hy s2 _ hR2 hP
theorem A6 {f:Value} {a b c d:PV} {Q:KV} (h:∀ x y z u,a.Is x→b.Is y→c.Is z→d.Is u→GoV F (call f [x,y,z,u]) pm nx Q):aI F f [a,b,c,d] pm nx Q:=by
 intro xs hx
 obtain ⟨x,y,z,u,h1,h2,h3,h4⟩:=AllIs.four hx;exact h _ _ _ _ h1 h2 h3 h4
end
section
variable {F:Fm} {pm:PM} {nx:Led}
inductive DH (l:Addr) (o:Obj) (nx:Led) (K:Led→Prop):Prop
 | mk (nx':Led):Chg l o nx nx'→K nx'→DH l o nx K
theorem ic (ok:F.Ok) {l:Addr} {vs:List Value} {n k:Nat} {pk py:PV} {Q:KV} (hm:(l,W.listOf vs.toArray n)∈nx) (hk:asI pk=some (k:Int)) (h1:k≤2 ^ 40) (hz:vs.length≤1000000)
  (h:∀ y,py.Is y→DH l (W.listOf (kl_ins vs (k:Nat) y).toArray (n + 1)) nx (Q (.v .none) pm)):aI F (.builtin "list.insert") [.v (.ref l),pk,py] pm nx Q:=by
 refine gN fun a b y ha hb hy s P hR hP=>?_
 obtain rfl:=ha
 obtain ⟨t,rfl⟩:=au hk hb
 obtain ⟨nx',hn,hq⟩:=h y hy
 refine ok.turn hR hm fun m rest Fr' N hr mk=>?_
 refine kl_insert Fr' N (show Builtin.List.listFitsIndex (k:Int)=true by unfold Builtin.List.listFitsIndex;simp;lia) rfl (Upd.head hr) (by rw [sizeLine_eq];show vs.length≤_;lia) fun h' F' N'=>?_
 exact hP _ _ _ _ _ hq rfl (mk h' s.toks _ nx' F' N' hn)
theorem xB (ok:F.Ok) {l:Addr} {vs:List Value} {n:Nat} {py:PV} {Q:KV} (hm:(l,W.listOf vs.toArray n)∈nx) (hz:vs.length≤1000000)
  (h:∀ y,py.Is y→DH l (W.listOf (vs++[y]).toArray (n + 1)) nx (Q (.v .none) pm)):aI F (.builtin "list.append") [.v (.ref l),py] pm nx Q:=by
 refine call2 fun a y ha hy s P hR hP=>?_
 obtain rfl:=ha
 obtain ⟨nx',hn,hq⟩:=h y hy
 refine ok.turn hR hm fun m rest Fr' N hr mk=>?_
 refine append_K Fr' N (Upd.head hr) (fun h' F' N'=>?_) (by rw [List.size_toArray,sizeLine_eq];lia)
 rw [List.push_toArray] at N'
 exact hP _ _ _ _ _ hq rfl (mk h' s.toks _ nx' F' N' hn)
end
inductive Tab (q:Str):List Value→Led→Prop
 | nil:Tab q [] []
 | cons {r codes} (l c:Int) (a:Addr) (o:Obj) (vs:Array Value) (t:Tok):o.data=.fields vs→vs[1]?=some (.str q t)→Tab q r codes→Tab q (rawInt l::rawInt c::.ref a::r) ((a,o)::codes)
theorem Tab.triples {q:Str} {ps:List Value} {codes:Led} (h:Tab q ps codes):TriplesOk ps:=by
 induction h with
 | nil=>trivial
 | cons l c a o vs t _ _ _ ih=>exact ih
theorem Tab.find {q:Str} (pos:Pos) {ps:List Value} {codes:Led} (h:Tab q ps codes):codeAmong pos ps=none∨∃ a o vs t,codeAmong pos ps=some (.ref a)∧(a,o)∈codes∧o.data=.fields vs∧vs[1]?=some (.str q t):=by
 induction h with
 | nil=>exact .inl rfl
 | @cons r codes l c a o vs t hd hv _ ih =>
  have e:codeAmong pos (rawInt l::rawInt c::.ref a::r)=if l==pos.line && c==pos.col then some (.ref a) else codeAmong pos r:=rfl
  rw [e]
  split
  ·exact .inr ⟨a,o,vs,t,rfl,.head _,hd,hv⟩
  ·rcases ih with ih | ⟨b,o',vs',t',h1,h2,h3⟩
   ·exact .inl ih
   ·exact .inr ⟨b,o',vs',t',h1,.tail _ h2,h3⟩
theorem Tab.snoc {q:Str} {l c:Int} {a:Addr} {o:Obj} {vs:Array Value} {t:Tok} (hd:o.data=.fields vs) (hv:vs[1]?=some (.str q t)) {ps:List Value} {codes:Led} (h:Tab q ps codes):Tab q (ps++[rawInt l,rawInt c,.ref a]) (codes++[(a,o)]):=by
 induction h with
 | nil=>exact .cons l c a o vs t hd hv .nil
 | cons l1 c1 a1 o1 vs1 t1 h1 h2 _ ih=>exact .cons l1 c1 a1 o1 vs1 t1 h1 h2 ih
section
variable {C:Cx} {w:World} {sc:Scope} {pm:PM} {nx:Led} {D:Nat}
theorem wh {F:Fm} (ok:F.Ok) {params:Arguments} {body:Expr} {scope:Scope} {pos:Pos} {c P a:Addr} {q cn:Str} {cs:Scope} {cl:List (Str×Addr)} {ps:Array Value} {codes X:Led} {clos:List (Str×Addr)} {Q:KV} (CH:CodeHd F.C.h₀ c P) (hdef:defaultsOf params F.env=([],[]))
  (hE:makeFunction "<lambda>" q params (.expr body) scope F.env [] [] [] pos pos.line=makeFunction "<lambda>" q params (.expr body) scope (envX cn cs F.C.L a (.ref c) cl) [] [] [] pos pos.line) (hcl:closureFor scope (envX cn cs F.C.L a (.ref c) cl)=pure clos) (hq:F.env.qual++"<lambda>"=q) (hT:Tab q ps.toList codes) (hP:(P,tabObj ps)∈nx) (hco:∀ p∈codes,p∈nx∧p.1≠P) (hX:∀ p∈X,p∈nx∧p.1≠P)
  (h:∀ f c' oc vs t pmv ctv ps' codes',Tab q ps'.toList codes'→(c',oc)∈codes'→oc.data=.fields vs→vs[1]?=some (.str q t)→(∀ p∈(P,tabObj ps')::(codes'++X),p.1 < f)→(∀ p∈codes',p.1≠P∧(p∈codes∨∀ z∈nx,z.1 < p.1)) →
   Q (.v (.ref f)) pm ((f,kla_obj "<lambda>" q params body scope clos pmv c' ctv)::(P,tabObj ps')::(codes'++X))):GoV F (eval (.Lambda params body scope pos) F.env) pm nx Q:=by
 intro s T hR hTT
 obtain ⟨D,hC⟩:=ok.gr
 refine kla_eval hdef ?_
 rw [hq,hE]
 obtain ⟨m,os,Fr',N,ap,_,mk⟩:=ok.opc hR
 have mP:=List.mem_append_right os hP
 have lt:∀ p∈os++nx,p.1 < s.heap.objs.size:=fun p hp=>Heap.lt_size (N p hp).1
 rcases hT.find pos with hf | ⟨b,o,vs,t,hf,hm,hd,hv⟩
 ·have hr:∀ p∈(os++nx).filter (fun p => !(p.1==P)),p∈os++nx∧p.1≠P:=fun p hp=>by simpa using List.mem_filter.mp hp
  have hr':∀ p,p∈os++nx→p.1≠P→p∈(os++nx).filter fun p => !(p.1==P):=fun p h1 h2=>List.mem_filter.mpr ⟨h1,by simpa using h2⟩
  refine kla_nest (news:=(P,tabObj ps)::(os++nx).filter fun p => !(p.1==P)) Fr' (News.of N fun p hp=>?_) hC.T CH rfl (UpdF.head fun p hp=>(hr p hp).2) hT.triples hf hcl fun f c' oc vs t ctv h' tk F' N' hd hv hl hlt=>?_
  ·rcases cnX hp with rfl | hp
   ·exact mP
   ·exact (hr p hp).1
  have all:∀ p∈os++nx,p.1 < c':=fun p hp=>by
   by_cases e:p.1=P
   ·rw [e];exact hl _ (.head _)
   ·exact hl p (.tail _ (hr' p hp e))
  refine hTT _ _ _ _ _ (h f c' oc vs t ((F.C.mg (Str.ofString "__name__")).getD .none) ctv (ps++#[rawInt pos.line,rawInt pos.col,.ref c']) (codes++[(c',oc)]) (by rw [Array.toList_append];exact hT.snoc hd hv) (apR (.head _)) hd hv (fun p hp=>?_) (fun p hp=>?_)) rfl (mk h' tk _ F' (News.of N' fun p hp=>?_) fun p hp z hz=>?_)
  ·rcases cnX hp with rfl | hp
   ·exact Nat.lt_trans (all (P,tabObj ps) mP) hlt
   ·rcases apX hp with hp | hp
    ·rcases apX hp with hp | hp
     ·exact Nat.lt_trans (all _ (apR (hco p hp).1)) hlt
     ·rw [sgX hp];exact hlt
    ·exact Nat.lt_trans (all _ (apR (hX p hp).1)) hlt
  ·rcases apX hp with hp | hp
   ·exact ⟨(hco p hp).2,.inl hp⟩
   ·rw [sgX hp];exact ⟨Nat.ne_of_gt (all (P,tabObj ps) mP),.inr fun z hz=>all _ (apR hz)⟩
  ·rcases apX hp with hp | hp
   ·exact .tail _ (.tail _ (.tail _ (hr' p (apL hp) (ap p hp _ hP))))
   ·rcases cnX hp with rfl | hp
    ·exact .head _
    ·rcases cnX hp with rfl | hp
     ·exact .tail _ (.tail _ (.head _))
     ·rcases apX hp with hp | hp
      ·rcases apX hp with hp | hp
       ·exact .tail _ (.tail _ (.tail _ (hr' p (apR (hco p hp).1) (hco p hp).2)))
       ·rw [sgX hp];exact .tail _ (.head _)
      ·exact .tail _ (.tail _ (.tail _ (hr' p (apR (hX p hp).1) (hX p hp).2)))
  ·have hp':=all p (apL hp)
   rcases cnX hz with rfl | hz
   ·exact Nat.ne_of_lt (Nat.lt_trans hp' hlt)
   ·rcases cnX hz with rfl | hz
    ·exact ap p hp (P,tabObj ps) hP
    ·rcases apX hz with hz | hz
     ·rcases apX hz with hz | hz
      ·exact ap p hp z (hco z hz).1
      ·rw [sgX hz];exact Nat.ne_of_lt hp'
     ·exact ap p hp z (hX z hz).1
 ·have old:∀ p∈(P,tabObj ps)::(codes++X),p∈nx:=fun p hp=>by
   rcases cnX hp with rfl | hp
   ·exact hP
   ·exact (apX hp).elim (fun hp=>(hco p hp).1) fun hp=>(hX p hp).1
  refine kla_hit Fr' N hC.T CH rfl mP hT.triples hf hcl fun f ctv h' tk F' N' hl=>?_
  refine hTT _ _ _ _ _ (h f b o vs t ((F.C.mg (Str.ofString "__name__")).getD .none) ctv ps codes hT hm hd hv (fun p hp=>hl p (apR (old p hp))) fun p hp=>⟨(hco p hp).2,.inl hp⟩) rfl (mk h' tk _ F' (News.of N' fun p hp=>?_) fun p hp z hz=>?_)
  ·rcases apX hp with hp | hp
   ·exact .tail _ (apL hp)
   ·rcases cnX hp with rfl | hp
    ·exact .head _
    ·exact .tail _ (apR (old p hp))
  ·rcases cnX hz with rfl | hz
   ·exact Nat.ne_of_lt (hl p (apL hp))
   ·exact ap p hp z (old z hz)
theorem A7 (hC:C.Ok w sc D) {params:Arguments} {body:Expr} {scope:Scope} {pos:Pos} {c P:Addr} {q:Str} {ps:Array Value} {codes X:Led} {clos:List (Str×Addr)} {Q:KV} (hcd:C.ccd=.ref c) (CH:CodeHd C.h₀ c P) (hdef:defaultsOf params (C.fm w sc).env=([],[]))
  (hcl:closureFor scope (C.fm w sc).env=pure clos) (hq:(C.fm w sc).env.qual++"<lambda>"=q) (hT:Tab q ps.toList codes) (hP:(P,tabObj ps)∈nx) (hco:∀ p∈codes,p∈nx∧p.1≠P) (hX:∀ p∈X,p∈nx∧p.1≠P)
  (h:∀ f c' oc vs t pmv ctv ps' codes',Tab q ps'.toList codes'→(c',oc)∈codes'→oc.data=.fields vs→vs[1]?=some (.str q t)→(∀ p∈(P,tabObj ps')::(codes'++X),p.1 < f)→(∀ p∈codes',p.1≠P∧(p∈codes∨∀ z∈nx,z.1 < p.1)) →
   Q (.v (.ref f)) pm ((f,kla_obj "<lambda>" q params body scope clos pmv c' ctv)::(P,tabObj ps')::(codes'++X))):GoV (C.fm w sc) (eval (.Lambda params body scope pos) (C.fm w sc).env) pm nx Q :=
 wh (Cx.fmOk hC) (a:=C.a) (cn:=C.cn) (cs:=sc) (cl:=C.cl) CH hdef (by rw [← hcd];rfl) (by rw [← hcd];exact hcl) hq hT hP hco hX h
end
end Mine
end
section
namespace Mine
section
variable {F:Fm} {scope:Scope} {cl:List (Str×Addr)} {pmO:PM} {σ:Type}
abbrev Kn (G:Fm) (vx:Expr) (Q:Str→KV):KV:=fun kv pm nx=>lE (asS kv) (fun k=>(WW G 30).1 vx pm nx (Q k)) False
inductive DInv (F:Fm) (scope:Scope) (cl:List (Str×Addr)) (pmO pmE:PM) (Cc I D:Addr) (n:Nat) (O:Nat→Obj→Prop) (P:Nat→List (Str×Value)→σ→Prop) (led:σ→Led) (k:Nat) (s:Shared):Prop
 | mk (i:Nat) (kvs:List (Str×Value)) (c:σ) (oI oD:Obj):k=n + 1 - i→i≤n→kvs.length≤i→O i oI→P i kvs c→oD.IsDictOf (PySem.strKind PySem.Challenge.rw_tc0096_01.prog F.w) kvs→(∀ p∈led c,p.1≠I∧p.1≠D)→F.cR scope cl [] Cc pmO [] pmE ((I,oI)::(D,oD)::led c) s→DInv F scope cl pmO pmE Cc I D n O P led k s
def DInv.lt (J:Nat→Shared→Prop) (n:Nat) (s:Shared):Prop:=∃ m,m < n∧J m s
def FK (M:Model) (A:Around) (env:Env) (x:Str) (px:Pos) (kx vx:Expr) (D:Addr) (R:Shared→Prop) (v:Value) (s:Shared):Prop :=
 wpAny M A (assign (.Name x px) env v) (fun _ s₂=>wpAny M A (eval kx env) (fun kv s₄=>wpAny M A (eval vx env) (fun vv s₅=>wpAny M A (dictSet D kv vv) (fun _ s₆=>R s₆) NoE s₅) NoE s₄) NoE s₂) NoE s
def Jp (X:Value→Shared→Prop):Option Value→Shared→Prop
 | none,_=>False
 | some v,s=>X v s
def Jq (X:Shared→Prop):Option Value→Shared→Prop
 | none,s=>X s
 | some _,_=>False
abbrev A8 (F:Fm) (scope:Scope) (cl:List (Str×Addr)) (pmE:PM) (x:Str) (kx vx:Expr) (u:Nat→PV) (led:σ→Led) (P:Nat→List (Str×Value)→σ→Prop) (n:Nat):Prop :=
 ∀ i kvs c, i < n → P i kvs c → ∀ κ : CfK, (F.cfk scope cl none κ).Ok → ∀ Qy : Str → KV, (∀ k pv pm nx c', (∀ y, pv.Is y → P (i + 1) (stored kvs k y) c') → (∀ p ∈ led c', p ∈ nx) → Qy k pv pm nx) →
   fS (F.cfk scope cl none κ) x (u i) pmE (led c) (GJ (F.cfk scope cl none κ) kx (Kn (F.cfk scope cl none κ) vx Qy))
theorem xC {kx vx:Expr} {x:Str} {px:Pos} {n i:Nat} {I D Cc:Addr} {oI oD:Obj} {kvs:List (Str×Value)} {c:σ} {v:Value} {s:Shared} {pmE:PM} {u:Nat→PV} {led:σ→Led} {P:Nat→List (Str×Value)→σ→Prop} {O:Nat→Obj→Prop}
  (okG:∀ tr,(F.cf scope cl [] Cc pmO tr).Ok) (hE:capE F scope cl none pmO pmE) (hu:(u i).Is v) (hsz:n≤1000) (turn:A8 F scope cl pmE x kx vx u led P n) (hDI:D≠I) (hlt:i < n) (hkl:kvs.length≤i) (hO:O (i + 1) oI) (hP:P i kvs c)
  (hoD:oD.IsDictOf (PySem.strKind PySem.Challenge.rw_tc0096_01.prog F.w) kvs) (hled:∀ p∈led c,p.1≠I∧p.1≠D) (hR:F.cR scope cl [] Cc pmO [] pmE ((I,oI)::(D,oD)::led c) s) :
  FK F.M F.A (compEnvC scope cl Cc F.env) x px kx vx D (DInv.lt (DInv F scope cl pmO pmE Cc I D n O P led) (n + 1 - i)) v s:=by
 have hd:F.cR scope cl [] Cc pmO [(I,oI),(D,oD)] pmE (led c) s:=Fm.cR.down (tr:=[(I,oI),(D,oD)]) hR fun p hp q hq=>by
  rcases cnX hq with rfl | hq
  ·exact (hled p hp).1
  ·rw [sgX hq];exact (hled p hp).2
 have hst:=turn i kvs c hlt hP ⟨Cc,0,F.cR scope cl [] Cc pmO [(I,oI),(D,oD)]⟩ (okG _) (fun k pv pm nx=>∃ c',(∀ y,pv.Is y→P (i + 1) (stored kvs k y) c')∧∀ p∈led c',p∈nx) fun _ _ _ _ c' h1 h2=>⟨c',h1,h2⟩
 refine wpAny_assign_Name (c6 (okG _) hst v hu _ _ hd fun _ _ pm3 nx3 s3 h3 _ hR3=>?_)
 refine (ar (okG _) 30).1 _ _ _ _ h3 s3 _ hR3 fun pk yk pm4 nx4 s4 h4 hy4 hR4=>bR h4 (fun k hk4 q=>?_) fun h=>h.elim
 obtain ⟨tk,rfl⟩:=aJ hk4 hy4
 refine (ar (okG _) 30).1 _ _ _ _ q s4 _ hR4 fun pv y pm5 nx5 s5 h5 hy hR5=>?_
 obtain ⟨c',hP',hl'⟩:=h5
 have hap:∀ p∈led c',p.1≠I∧p.1≠D:=fun p hp=>by
  obtain ⟨_,_,_,_,_,_,_,_,_,a3,_⟩:=hR5
  exact ⟨a3 p (hl' p hp) _ (.head _),a3 p (hl' p hp) _ (.tail _ (.head _))⟩
 refine (okG []).turn (l:=D) (o:=oD) (Fm.cR.up hR5) (.tail _ (.head _)) fun m rest Fr' N hr mk=>?_
 have hN:=N _ (.head _)
 refine wpAny_dictSet_pairs (strKind_is _ _ _ _) (Heap.dictOf_iff.mpr ⟨oD,hN.1,hoD⟩) (fun h' hmm hs=>?_) (by rw [sizeLine_eq];lia)
 obtain ⟨oD',ho',hoD'⟩:=Heap.dictOf_iff.mp hmm
 refine ⟨n + 1 - (i + 1),by lia,.mk (i + 1) (stored kvs k y) c' oI oD' rfl hlt (by have:=stored_length_le kvs k y;lia) hO (hP' y hy) hoD' hap (Fm.cR.cap (oy:=none) (K:=Cc) (pmB:=[]) hE ((okG []).pms (mk h' _ oD' ((I,oI)::(D,oD')::led c') (Fr'.change hs hN.2.1 hN.2.2) (nB N hr hs ho') fun p hp=>?_) trivial))⟩
 rcases cnX hp with rfl | hp
 ·exact .inr ⟨.head _,Ne.symm hDI⟩
 ·rcases cnX hp with rfl | hp
  ·exact .inl rfl
  ·exact .inr ⟨.tail _ (.tail _ (hl' p hp)),(hap p hp).2⟩
theorem tV (ok:F.Ok) {kx vx iter:Expr} {x:Str} {px pos:Pos} {it:PV} {nx:Led} {n:Nat} {It:Nat→Value→Prop} (pmE:PM) (u:Nat→PV) (led:σ→Led) (P:Nat→List (Str×Value)→σ→Prop) (c₀:σ) {Q:PM→Led→Addr→Prop}
  (S:oA F n It [] it pmO nx) (hE:capE F scope cl none pmO pmE) (hu:∀ i v,It i v→(u i).Is v) (hsz:n≤1000) (h0:P 0 [] c₀∧∀ p∈led c₀,p∈nx)
  (turn:A8 F scope cl pmE x kx vx u led P n)
  (done:∀ kvs c E oE,P n kvs c→oE.IsDictOf (PySem.strKind PySem.Challenge.rw_tc0096_01.prog F.w) kvs→(∀ p∈led c,p.1≠E)→Q pmO ((E,oE)::led c) E)
  (hk:scope.kind=.function:=by rfl) (hcf:∀ k,cellsFrom k scope.names cl=cl:=by exact fun _=>rfl) (hpc:∀ h,pushCells h scope.names=h:=by exact fun _=>rfl):wb F scope cl (.DictComp kx vx [⟨.Name x px,iter,[],0⟩] scope pos) newDict none it pmO nx Q:=by
 intro v s T hv hR hT
 refine S v s _ hv hR fun s₁ I oI O hR1 hoff Sr hO=>?_
 have al:=ok.alloc (o:={ cls:=.type "dict",dict:=none,data:=.dict #[] }) rfl hR1
 refine wpAny_newObj_type (pd (oy:=none) ok hk hcf hpc hE al.1 fun Cc K s₂ hCc hR2=>?_) (Nat.zero_le _)
 have hDI:s₁.heap.objs.size≠I:=Nat.ne_of_gt (al.2 _ (.head _))
 have hD:∀ p∈nx,p.1≠s₁.heap.objs.size:=fun p hp=>Nat.ne_of_lt (al.2 p (.tail _ hp))
 have dict0:Obj.IsDictOf (PySem.strKind PySem.Challenge.rw_tc0096_01.prog F.w) { cls:=.type "dict",dict:=none,data:=.dict #[] } []:=by
  obtain ⟨o,e,r⟩:=Heap.dictOf_iff.mp (Heap.DictOf.new (knd:=PySem.strKind PySem.Challenge.rw_tc0096_01.prog F.w) s₁.heap)
  rw [Heap.get?_push_size _ rfl] at e
  cases e
  exact r
 generalize s₁.heap.objs.size=D at *
 have okG:∀ tr,(F.cf scope cl [] Cc pmO tr).Ok:=fun tr=>Fm.cfOk ok hk List.nodup_nil List.nodup_nil
 have start:∀ s',F.cR scope cl [] Cc pmO [] pmE ((D,{ cls:=.type "dict",dict:=none,data:=.dict #[] })::(I,oI)::nx) s'→codeAny F.M F.A (.compLoop (.DictComp kx vx [⟨.Name x px,iter,[],0⟩] scope pos) 0 (.ref I) (.ref D) (compEnvC scope cl Cc F.env)) (compPost F.M F.A NoE none T (.ref D) Cc) s':=by
  intro s' hR'
  refine codeAny_compLoop_testsD (DInv F scope cl pmO pmE Cc I D n O P led) ?_ (n + 1) (.mk 0 [] c₀ oI _ rfl (Nat.zero_le _) (Nat.le_refl _) hO h0.1 dict0 (fun p hp=>⟨hoff p (h0.2 p hp),hD p (h0.2 p hp)⟩) ((okG []).led hR' fun p hp=>?_))
  ·rintro k s₁ ⟨i,kvs,c,oI,oD,rfl,hi,hkl,hO,hP,hoD,hled,hR1⟩
   have off2:∀ p∈(D,oD)::led c,p.1≠I:=fun p hp=>by
    rcases cnX hp with rfl | hp
    ·exact hDI
    ·exact (hled p hp).1
   rcases Nat.lt_or_ge i n with hlt | hge
   ·refine a7 (rd (T:=Jp (FK F.M F.A (compEnvC scope cl Cc F.env) x px kx vx D (DInv.lt (DInv F scope cl pmO pmE Cc I D n O P led) (n + 1 - i)))) (okG []) Sr hlt hO (fun p hp=>nomatch hp) off2 hR1 fun v s₂ oI2 hv hO2 hR2=>xC okG hE (hu i v hv) hsz turn hDI hlt hkl hO2 hP hoD hled hR2) fun r s₂ h2=>?_
    cases r with
    | none=>exact h2.elim
    | some v=>exact a7 h2 fun _ s₃ h3=>wpAny_tests_nil (by rw [if_pos rfl];exact a7 h3 fun kv s₄ h4=>a7 h4 fun vv s₅ h5=>a7 h5 fun _ _ q=>q)
   ·obtain rfl:i=n:=Nat.le_antisymm hi hge
    refine a7 (tS (T:=Jq (compPost F.M F.A NoE none T (.ref D) Cc (.ok .next))) (okG []) Sr hO (fun p hp=>nomatch hp) off2 hR1 fun s2 hR2=>?_) fun r s₂ h2=>?_
    ·obtain ⟨oC,m₂,cm,os,R2,hns,Y,a1,a2,a3,ft⟩:=hR2
     exact hT D pmO _ Cc oC m₂ s2 (done kvs c D oD hP hoD fun p hp=>(hled p hp).2) hns (fun p hp=>(a1 p hp).1) (ok.led R2 fun p hp=>by
      rcases cnX hp with rfl | hp
      ·exact .head _
      ·exact .tail _ (apR hp))
    ·cases r with
     | none=>exact h2
     | some v=>exact h2.elim
  ·rcases cnX hp with rfl | hp
   ·exact .tail _ (.head _)
   ·rcases cnX hp with rfl | hp
    ·exact .head _
    ·exact .tail _ (.tail _ (h0.2 p hp))
 exact codeAny_compStart_dict (start _ hR2) (Sr.self 0 _ oI _ _ hO ((okG []).mem hR2 (.tail _ (.head _))) (fun p hp=>nomatch hp) (start _ hR2))
theorem A9 (ok:F.Ok) {kx vx iter:Expr} {target:Expr} {pos:Pos} {pm:PM} {nx:Led} {Q:KV} (hclos:closureFor scope F.env=pure cl) (h:(WW F 30).1 iter pm nx (AW F scope cl (.DictComp kx vx [⟨target,iter,[],0⟩] scope pos) newDict none (Jh Q)))
  (hsc:wc scope=true:=by rfl) (hk:scope.kind=.function:=by rfl) (hn:q9 iter=true:=by rfl):GoV F (eval (.DictComp kx vx [⟨target,iter,[],0⟩] scope pos) F.env) pm nx Q:=by
 intro s T hR hT
 rw [arm_eval_DictComp]
 refine wpAny_comprehension_free (use:=none) rfl (fun x=>?_) hclos hk (gQ hsc) ((ar ok 30).1 _ _ _ _ h s _ hR fun it v pm' nx' s' q hv hR'=>q v s' T hv hR' fun E pm2 nx2 Cc oC m₂ s2 q2 hns hne hR2=>?_)
 ·cases iter <;> first | rfl | exact bA hn
 ·refine ⟨m₂,hns.ns (ok.mem hR2 (.head _)),fun h' hs=>?_⟩
  exact hT _ _ _ _ _ q2 rfl (rf ok hR2 hne hs)
end
end Mine
end
section
namespace Mine
section
variable {F:Fm} {pm:PM} {nx:Led} {D:Nat}
theorem Fm.Ok.useChg (ok:F.Ok) (hC:F.C.Ok F.w F.sc D) {f:Value} {xs:List Value} {kw:List (Str×Value)} {d:Nat} {Q:KV} {l:Addr} {o o':Obj} {nx2:Led} (hd:d≤D) (hm:(l,o)∈nx) (hc:Chg l o' nx nx2)
  (h:∀ os news',F.CellIn pm os→Chg l o' (os++nx) news'→ah F.w f xs kw d (os++nx) (fun v nx'=>v=.none∧nx'=news')) (hq:Q (.v .none) pm nx2):GoV F (call f xs kw) pm nx Q :=
 ok.useC hC hd fun os ap hcl=>⟨os++nx,_,fun _ h=>h,h os (os++nx2) hcl fun p hp=>(apX hp).elim (fun hp=>.inr ⟨apL hp,ap p hp _ hm⟩) fun hp=>(hc p hp).elim .inl fun ⟨a,b⟩=>.inr ⟨apR a,b⟩,
  fun v nx' ⟨e1,e2⟩=>⟨.v .none,nx2,e1,fun p hp=>e2▸hp,fun p hp q hq=>(hc q hq).elim (fun e=>e▸ap p hp (l,o) hm) fun ⟨a,_⟩=>ap p hp q a,hq⟩⟩
theorem bC (ok:F.Ok) {a i:Expr} {pi:PV} {d:Addr} {o:Obj} {kvs:List (Str×Value)} {k:Str} {v:Value} {Q:KV} (p:PV) (hm:(d,o)∈nx) (hd:o.IsDictOf (PySem.strKind PySem.Challenge.rw_tc0096_01.prog F.w) kvs) (hi:asS pi=some k) (hl:valueAt kvs k=some v) (hp:p.Is v) (h:Q p pm nx)
  (hn:bO i=true:=by rfl) (hg:∀ r,letTemporaryGo a (.ref d) r=pure ():=by intro _;rfl):ow F a i (.v (.ref d)) pi pm nx Q:=by
 intro x y hx hy s P hR hP
 obtain rfl:=hx
 obtain ⟨t,rfl⟩:=aJ hi hy
 obtain ⟨m,os,Fr',N,ap,_,mk⟩:=ok.opc hR
 refine kda_item (knd:=PySem.strKind _ _) N (apR hm) hd (strKind_is _ _ _ _) hl (hP _ _ _ _ _ h hp (ok.toks _ hR)) ?_ hg
 cases i <;> first | with_unfolding_all rfl | exact bA hn
theorem DJ (ok:F.Ok) {a i:Expr} {pi:PV} {l:Addr} {vs:List Value} {v:Value} {n:Nat} {Q:KV} (p:PV) (hm:(l,W.listOf (vs++[v]).toArray n)∈nx) (hi:asI pi=some (-1)) (hs:vs.length≤1000) (hp:p.Is v) (h:Q p pm nx) (hn:bO i=true:=by rfl):ow F a i (.v (.ref l)) pi pm nx Q:=by
 intro x y hx hy s P hR hP
 obtain rfl:=hx
 obtain ⟨t,rfl⟩:=au hi hy
 have hl:=ok.list hR hm
 refine tail_any (ops:=[.ref l,.int (-1) t]) hl.typeIs slot_list_getitem.lookup (wpAny_getItem_list_neg hl (by decide) (by simp;lia) (by decide) (x:=v) ?_ (hP _ _ _ _ _ h hp hR)) ?_
 ·have:((-1:Int) + ((vs++[v]).toArray.size:Int)).toNat=vs.length:=by simp;lia
  rw [this]
  simp
 ·cases i <;> first | with_unfolding_all rfl | exact bA hn
theorem GP (ok:F.Ok) {l:Addr} {vs:List Value} {ns:List Int} {n:Nat} {k:Int} {b:PV} {Q:KV} (hm:(l,W.listOf vs.toArray n)∈nx) (hi:IntsAre vs ns) (hb:asI b=some k) (h0:0≤k) (h1:k≤1000) (hs:vs.length≤1000)
  (h:∀ E ys,IntsAre ys (List.replicate k.toNat ns).flatten→(∀ p∈nx,p.1 < E)→Q (.v (.ref E)) pm ((E,W.listOf ys.toArray 0)::nx)):fg F .Mult (.v (.ref l)) b pm nx Q:=by
 intro x y hx hy s P hR hP
 obtain rfl:=hx
 obtain ⟨t,rfl⟩:=au hb hy
 obtain ⟨m,os,Fr',N,ap,_,mk⟩:=ok.opc hR
 refine KM.mul Fr' N (News.isList N (apR hm)) hi (by lia) (by lia) ?_ fun E h' F' N' hE hy _ _ _ _ _=>?_
 ·exact Nat.le_trans (Nat.mul_le_mul hs (show k.toNat≤1000 by lia)) (by decide)
 ·refine hP _ _ _ _ _ (h E _ hy fun p hp=>hE p (apR hp)) rfl (mk h' s.toks _ F' (News.of N' fun p hp=>?_) fun p hp q hq=>?_)
  ·rcases apX hp with hp | hp
   ·exact .tail _ (apL hp)
   ·rcases cnX hp with rfl | hp
    ·exact .head _
    ·exact .tail _ (apR hp)
  ·rcases cnX hq with rfl | hq
   ·exact Nat.ne_of_lt (hE p (apL hp))
   ·exact ap p hp q hq
theorem GQ (ok:F.Ok) (hC:F.C.Ok F.w F.sc D) {a b:Addr} {xs ys:List Value} {ns ms:List Nat} {n k:Nat} {Q:KV} (ha:(a,W.listOf xs.toArray n)∈nx) (hb:(b,W.listOf ys.toArray k)∈nx) (hi:StrsAre xs (ns.map one)) (hj:StrsAre ys (ms.map one)) (h1:∀ c∈ns,c < 1114112) (h2:∀ c∈ms,c < 1114112) (hd:9≤D) (h:Q (.v (.bool (decide (ns=ms)))) pm nx):dE F .Eq (.v (.ref a)) (.v (.ref b)) pm nx Q:=by
 intro x y hx hy s P hR hP
 obtain rfl:=hx;obtain rfl:=hy
 have hu:F.A.units + 64 < cLine:=by rw [ok.hA];have:=hC.un;show F.C.un + 64 < _;lia
 exact C7 (ok.list hR ha) (ok.list hR hb) hi hj h1 h2 hu (hP _ _ _ _ _ h rfl hR)
theorem GR (ok:F.Ok) (hC:F.C.Ok F.w F.sc D) {a b:Addr} {xs ys:List Value} {ns ms:List Nat} {n k:Nat} {Q:KV} (ha:(a,W.listOf xs.toArray n)∈nx) (hb:(b,W.listOf ys.toArray k)∈nx) (hi:StrsAre xs (ns.map one)) (hj:StrsAre ys (ms.map one)) (h1:∀ c∈ns,c < 1114112) (h2:∀ c∈ms,c < 1114112) (hd:9≤D) (h:Q (.v (.bool (!decide (ns=ms)))) pm nx):dE F .NotEq (.v (.ref a)) (.v (.ref b)) pm nx Q:=by
 intro x y hx hy s P hR hP
 obtain rfl:=hx;obtain rfl:=hy
 have hu:F.A.units + 64 < cLine:=by rw [ok.hA];have:=hC.un;show F.C.un + 64 < _;lia
 exact vT (ok.list hR ha) (ok.list hR hb) hi hj h1 h2 hu (hP _ _ _ _ _ h rfl hR)
end
end Mine
end
section
namespace Mine
noncomputable def pick (b:PM):PM→PM
 | []=>[]
 | p::r=>(match look b p.1 with | some v=>(p.1,v)::pick b r | none=>[])
theorem eU {b:PM}:∀ {a:PM},pick b a=a→Sub a b:=by
 intro zz
 induction zz with
 | nil =>
  intro _
  exact trivial
 | cons p r ih =>
  intro h
  have h:(match look b p.1 with | some v=>(p.1,v)::pick b r | none=>[])=p::r:=h
  show Gp (look b p.1) p.2∧Sub r b
  cases e:look b p.1 with
  | none=>rw [e] at h;cases h
  | some v =>
   rw [e] at h
   rw [List.cons.injEq] at h
   exact ⟨by rw [← h.1];exact PV.Le.refl v,ih h.2⟩
noncomputable def PV.at:PV→Tok→Value
 | .v x,_=>x
 | .i n,t=>.int n t
 | .f x,t=>.float x t
 | .s z,t=>.str z t
theorem PV.Is.tok {p:PV} {x:Value} (h:p.Is x):∃ t,x=p.at t:=by
 cases p with
 | v y=>exact ⟨0,h⟩
 | i n=>exact h
 | f n=>exact h
 | s n=>exact h
section
variable {F:Fm} {pm:PM} {nx:Led} {D:Nat}
theorem iW {f:Value} {a:PV} {Q:KV} (h:∀ t,GoV F (call f [a.at t]) pm nx Q):aI F f [a] pm nx Q :=
 dB fun x hx=>let ⟨t,e⟩:=hx.tok;e▸h t
theorem ri {f:Value} {a b:PV} {Q:KV} (h:∀ t u,GoV F (call f [a.at t,b.at u]) pm nx Q):aI F f [a,b] pm nx Q :=
 call2 fun x y hx hy=>let ⟨t,e⟩:=hx.tok;let ⟨u,e2⟩:=hy.tok;e▸e2▸h t u
theorem iX {f:Value} {a b c:PV} {Q:KV} (h:∀ t u v,GoV F (call f [a.at t,b.at u,c.at v]) pm nx Q):aI F f [a,b,c] pm nx Q :=
 gN fun x y z hx hy hz=>let ⟨t,e⟩:=hx.tok;let ⟨u,e2⟩:=hy.tok;let ⟨v,e3⟩:=hz.tok;e▸e2▸e3▸h t u v
theorem tW {f:Value} {a b c d:PV} {Q:KV} (h:∀ t u v w,GoV F (call f [a.at t,b.at u,c.at v,d.at w]) pm nx Q):aI F f [a,b,c,d] pm nx Q :=
 A6 fun x y z r hx hy hz hr=>let ⟨t,e⟩:=hx.tok;let ⟨u,e2⟩:=hy.tok;let ⟨v,e3⟩:=hz.tok;let ⟨w,e4⟩:=hr.tok;e▸e2▸e3▸e4▸h t u v w
theorem wi {f:Value} {a b k:PV} {key:Str} {Q:KV} (h:∀ t u v,GoV F (call f [a.at t,b.at u] [(key,k.at v)]) pm nx Q):FJ F f [a,b] key k pm nx Q:=fun xs y hx hy=>by
 obtain ⟨x,z,h1,h2⟩:=AllIs.two hx
 obtain ⟨t,rfl⟩:=h1.tok
 obtain ⟨u,rfl⟩:=h2.tok
 obtain ⟨v,rfl⟩:=hy.tok
 exact h t u v
theorem Ba {s:Shared} {D:Addr} {o:Obj} {os:Led} {m:Str→Option Value} (ap:∀ p∈os,∀ q∈nx,p.1≠q.1) (mk:∀ h' tk' nx',Fr F.C.h₀ F.C.L h' m→News F.C.h₀ F.C.L h' (os++nx')→(∀ p∈os,∀ q∈nx',p.1≠q.1)→F.R pm nx' { s with heap:=h',toks:=tk' }) {h':Heap} {tk:Tok} (F':Fr F.C.h₀ F.C.L h' m) (N':News F.C.h₀ F.C.L h' ((D,o)::(os++nx))) (l1:∀ p∈os++nx,p.1 < D):F.R pm ((D,o)::nx) { s with heap:=h',toks:=tk }:=by
 refine mk h' tk _ F' (News.of N' fun p hp=>?_) fun p hp q hq=>?_
 ·rcases apX hp with hp | hp
  ·exact .tail _ (apL hp)
  ·rcases cnX hp with rfl | hp
   ·exact .head _
   ·exact .tail _ (apR hp)
 ·rcases cnX hq with rfl | hq
  ·exact Nat.ne_of_lt (l1 p (apL hp))
  ·exact ap p hp q hq
inductive FL (ov:PV) (Q:KV) (uv:PV) (pm:PM) (nx:Led):Prop
 | mk (l:Addr) (vs:List Value) (n k:Nat):ov=.v (.ref l)→(l,W.listOf vs.toArray n)∈nx→asI uv=some (k:Int)→vs.length≤1000→(∀ D,(∀ q∈nx,q.1 < D)→Q (.v (.ref D)) pm ((D,W.listOf (vs.take k).toArray 0)::nx))→FL ov Q uv pm nx
abbrev Ko (F:Fm) (u:Expr) (Q:KV):KV:=fun ov pm nx=>(WW F 30).1 u pm nx (FL ov Q)
theorem sA (ok:F.Ok) {a u:Expr} {p pos:Pos} {Q:KV} (h:(WW F 30).1 a pm nx (Ko F u Q))
  (hs:∀ l b,subscripted (.Slice none (some u) none p) false (.ref l) (.ref b)=operate [.ref b,.ref l] (getItem (.ref l) (.ref b)):=by intro _ _;rfl) (ht:∀ l r,letTemporaryGo a (.ref l) r=pure ():=by intro _ _;rfl):GoV F (eval (.Subscript a (.Slice none (some u) none p) pos) F.env) pm nx Q:=by
 intro s P hR hP
 refine Subscript_ ((ar ok 30).1 _ _ _ _ h s _ hR fun ov x _ _ s1 h1 hx hR1=>?_)
 refine wpAny_Slice ?_
 rw [evalPart_none,evalPart_some]
 refine wpAny_pure ((ar ok 30).1 _ _ _ _ h1 s1 _ hR1 fun uv y pm2 nx2 s2 h2 hy hR2=>wpAny_pure ?_)
 obtain ⟨l,vs,n,k,rfl,hm,hk,hz,hq⟩:=h2
 obtain rfl:=hx
 obtain ⟨t,rfl⟩:=au hk hy
 obtain ⟨m,os,Fr',N,ap,_,mk⟩:=ok.opc hR2
 refine kms_slice_lit (zs:=vs.take k) Fr' N (News.isList N (apR hm)) .none (.int _ _) ?_ (fun D h' F' N' l1=>?_) (hs _ _) (ht _) (by rw [List.size_toArray,sizeLine_eq];lia)
 ·unfold kms_pick kms_lo kms_hi
  have h:¬ (k:Int) < 0:=by lia
  simp only [h,if_false,List.drop_zero,Nat.sub_zero,Int.toNat_natCast]
  rw [List.take_eq_take_iff]
  simp
 ·exact hP _ _ _ _ _ (hq D fun p hp=>l1 p (apR hp)) rfl (Ba ap mk F' N' l1)
def Jr (F:Fm) (o i v:PV) (pm:PM) (nx:Led) (Q:KU):Prop:=∀ x y z,o.Is x→i.Is y→v.Is z→GoU F (setItem x y z) pm nx Q
abbrev Js (F:Fm) (v ov:PV) (Q:KF):KV:=fun iv pm nx=>Jr F ov iv v pm nx (Q .next)
abbrev Jt (F:Fm) (i:Expr) (v:PV) (Q:KF):KV:=fun ov pm nx=>(WW F 30).1 i pm nx (Js F v ov Q)
abbrev Kp (F:Fm) (o i:Expr) (Q:KF):KV:=fun v pm nx=>(WW F 30).1 o pm nx (Jt F i v Q)
theorem DK (ok:F.Ok) {o i value:Expr} {p pos:Pos} {Q:KF} (h:(WW F 30).1 value pm nx (Kp F o i Q))
  (hs:swapsWith value (some (.Subscript o i p)) pos.line F.env=pure false:=by rfl):GoF F (exec (.Assign [.Subscript o i p] value pos) F.env) pm nx Q :=
 fun s P hR hP=>wpAny_Assign_Subscript ((ar ok 30).1 _ _ _ _ h s _ hR fun v x _ _ s1 h1 hx hR1=>(ar ok 30).1 _ _ _ _ h1 s1 _ hR1 fun ov y _ _ s2 h2 hy hR2=>(ar ok 30).1 _ _ _ _ h2 s2 _ hR2 fun iv z _ _ s3 h3 hz hR3=>h3 y z x hy hz hx s3 _ hR3 fun _ _ _ _ s4 h4 _ hR4=>hP _ _ _ _ _ h4 rfl hR4) hs
theorem DL (ok:F.Ok) {d:Addr} {o:Obj} {kvs:List (Str×Value)} {pk pv:PV} {k:Str} {Q:KU} (hm:(d,o)∈nx) (hd:o.IsDictOf (PySem.strKind PySem.Challenge.rw_tc0096_01.prog F.w) kvs) (hk:asS pk=some k) (hz:kvs.length≤1000)
  (h:∀ z o',pv.Is z→o'.IsDictOf (PySem.strKind PySem.Challenge.rw_tc0096_01.prog F.w) (stored kvs k z)→DH d o' nx (Q pm)):Jr F (.v (.ref d)) pk pv pm nx Q:=by
 intro x y z hx hy hz' s P hR hP
 obtain rfl:=hx
 obtain ⟨t,rfl⟩:=aJ hk hy
 refine ok.turn hR hm fun m rest Fr' N hr mk=>?_
 refine kda_set (knd:=PySem.strKind _ _) Fr' N (UpdF.head hr) hd (strKind_is _ _ _ _) (by rw [sizeLine_eq];lia) fun h' o' F' N' hd'=>?_
 obtain ⟨nx',hc,hq⟩:=h z o' hz' hd'
 exact hP () () _ _ _ hq rfl (mk h' _ o' nx' F' N' hc)
theorem Bb (ok:F.Ok) {pos:Pos} {Q:KV} (h:∀ D o,o.IsDictOf (PySem.strKind PySem.Challenge.rw_tc0096_01.prog F.w) []→(∀ p∈nx,p.1 < D)→Q (.v (.ref D)) pm ((D,o)::nx)):GoV F (eval (.Dict [] [] pos) F.env) pm nx Q:=by
 intro s P hR hP
 have al:=ok.alloc (o:={ cls:=.type "dict",dict:=none,data:=.dict #[] }) rfl hR
 refine wpAny_Dict_empty (hP _ _ _ _ _ (h _ _ ?_ al.2) rfl al.1)
 obtain ⟨o,e,r⟩:=Heap.dictOf_iff.mp (Heap.DictOf.new (knd:=PySem.strKind PySem.Challenge.rw_tc0096_01.prog F.w) s.heap)
 rw [Heap.get?_push_size _ rfl] at e
 cases e
 exact r
theorem rj (ok:F.Ok) {a b:PV} {x y:Int} {Q:KV} (ha:asI a=some x) (hb:asI b=some y) (h:Q (.i (if y > x then y else x)) pm nx):aI F (.builtin "max") [a,b] pm nx Q:=by
 refine call2 fun u v hu hv s P hR hP=>?_
 obtain ⟨t,rfl⟩:=au ha hu
 obtain ⟨t',rfl⟩:=au hb hv
 obtain ⟨m,os,Fr',N,ap,_,mk⟩:=ok.opc hR
 exact max_two_N ok.handled Fr' N fun h' tk F' N'=>hP _ _ _ _ _ h ⟨_,rfl⟩ (mk h' tk nx F' N' ap)
theorem wj (ok:F.Ok) {a b:PV} {x y:Int} {Q:KV} (ha:asI a=some x) (hb:asI b=some y) (h:Q (.i (if y < x then y else x)) pm nx):aI F (.builtin "min") [a,b] pm nx Q:=by
 refine call2 fun u v hu hv s P hR hP=>?_
 obtain ⟨t,rfl⟩:=au ha hu
 obtain ⟨t',rfl⟩:=au hb hv
 obtain ⟨m,os,Fr',N,ap,_,mk⟩:=ok.opc hR
 exact min_two_N ok.handled Fr' N fun h' tk F' N'=>hP _ _ _ _ _ h ⟨_,rfl⟩ (mk h' tk nx F' N' ap)
theorem wk (ok:F.Ok) {a b:PV} {x y:UInt64} {Q:KV} (ha:asF a=some x) (hb:asF b=some y) (h:Q (.f (if (Float64.cmp y x==some .lt)=true then y else x)) pm nx):aI F (.builtin "min") [a,b] pm nx Q:=by
 refine call2 fun u v hu hv s P hR hP=>?_
 obtain ⟨t,rfl⟩:=a6 ha hu
 obtain ⟨t',rfl⟩:=a6 hb hv
 obtain ⟨m,os,Fr',N,ap,_,mk⟩:=ok.opc hR
 exact Flt.min_two_ff ok.handled Fr' N fun h' tk v F' N'=>hP _ _ _ _ _ h ⟨_,rfl⟩ (mk h' tk nx F' N' ap)
theorem Bc (ok:F.Ok) {l:Addr} {vs:List Value} {ns:List Int} {n:Nat} {Q:KV} (hm:(l,W.listOf vs.toArray n)∈nx) (hi:IntsAre vs ns) (h64:vs.length < 64) (h:∀ D vs' ns' e,IntsAre vs' ns'→ns'.Perm ns→ns'.Pairwise (· ≤ ·)→(∀ p∈nx,p.1 < D)→Q (.v (.ref D)) pm ((D,W.listOf vs'.toArray e)::nx)):aI F (.builtin "sorted") [.v (.ref l)] pm nx Q:=by
 refine dB fun x hx s P hR hP=>?_
 obtain rfl:=hx
 obtain ⟨m,os,Fr',N,ap,_,mk⟩:=ok.opc hR
 have lt:∀ p∈os++nx,p.1 < s.heap.objs.size + 1:=fun p hp=>Nat.lt_succ_of_lt (News.low N p hp)
 exact sorted_N Fr' N (News.isList N (apR hm)) hi h64 fun h' vs' ns' e F' N' i1 i2 i3=>hP _ _ _ _ _ (h _ vs' ns' e i1 i2 i3 fun p hp=>lt p (apR hp)) rfl (Ba ap mk F' N' lt)
theorem GS (ok:F.Ok) (hC:F.C.Ok F.w F.sc D) {a b:Addr} {xs ys:List Value} {ns ms:List Int} {n k:Nat} {Q:KV} (ha:(a,W.listOf xs.toArray n)∈nx) (hb:(b,W.listOf ys.toArray k)∈nx) (hi:IntsAre xs ns) (hj:IntsAre ys ms) (hd:9≤D) (h:Q (.v (.bool (!decide (ns=ms)))) pm nx):dE F .NotEq (.v (.ref a)) (.v (.ref b)) pm nx Q:=by
 intro x y hx hy s P hR hP
 obtain rfl:=hx;obtain rfl:=hy
 have hu:F.A.units + 64 < cLine:=by rw [ok.hA];have:=hC.un;show F.C.un + 64 < _;lia
 exact ne_intsK (ok.list hR ha) hi (ok.list hR hb) hj hu (hP _ _ _ _ _ h rfl hR)
theorem DM (ok:F.Ok) {a:PV} {x:Int} {b:Bool} {Q:KV} (ha:asI a=some x) (h:Q (.i (x * if b=true then (1:Int) else 0)) pm nx):fg F .Mult a (.v (.bool b)) pm nx Q:=by
 intro u v hu hv s P hR hP
 obtain ⟨t,rfl⟩:=au ha hu
 obtain rfl:=hv
 exact PySem.IntBool.mul_int_bool (hP _ _ _ _ _ h ⟨_,rfl⟩ (ok.toks _ hR))
theorem DN (ok:F.Ok) {a:PV} {x:Int} {b:Bool} {Q:KV} (ha:asI a=some x) (h:Q (.i (x + if b=true then (1:Int) else 0)) pm nx):∀ y z,a.Is y→(PV.v (.bool b)).Is z→GoV F (inplaceOp .Add y z) pm nx Q:=by
 intro u v hu hv s P hR hP
 obtain ⟨t,rfl⟩:=au ha hu
 obtain rfl:=hv
 exact iadd_int_bool (hP _ _ _ _ _ h ⟨_,rfl⟩ (ok.toks _ hR))
end
end Mine
end
section
namespace Mine
section
variable {prog:Program} {w:World} {A:Around} {E:Value→Shared→Prop} {s:Shared} {h₀:Heap} {env:Env} {y:Str} {py:Pos} {body:List Stmt} {Q:Flow→Shared→Prop}
noncomputable def a0 (a c:Int) (n:Nat):List Itm:=(List.range n).map fun (i:Nat)=>Itm.tok fun t=>Value.int (a + (i:Int) * c) t
theorem rk {r:Addr} {a b c:Int} {t u v:Tok} {n:Nat} {m₀:Str→Option Value} {news:List (Addr×Obj)} (hh:A.handled=none) (F:Fr h₀ env.locals s.heap m₀) (N:News h₀ env.locals s.heap news) (hr:IsRange s.heap r a b c t u v) (hsmall:Builtin.Range.small a b c=true) (hn:Builtin.Range.rangeSize a b c=(n:Int))
  (rest₀:∀ (I:Addr) (cls:String),(∀ p∈news,p.1 < I)→ItemsRest prog w A E h₀ env (.Name y py) body Q s [(I,cls)] [] (a0 a c n) m₀ news) :
  wpAny (model prog w) A (pyIter (.ref r)) (fun it s₂=>TurnsAt prog w A h₀ env (.Name y py) body Q E it s₂) E s:=by
 refine wpAny_pyIter_range hr hsmall ?_
 rw [hn]
 refine ktu_core (tk0:=s.toks) (keep:=[]) (ws:=[(s.heap.objs.size,"range_iterator")]) (xs:=a0 a c n) (KTurns.ofWalks (Walks.range hh _ a c n).bound fun i v s Q E st q=>wpAny_pure q) (by simp [a0]) (fun i v h hp=>?_) (fun i h st=>?_) (fun b hb=>?_) (fun b hb=>by simpa using hb) (fun b hb=>.inl (by simpa using hb)) ?_ (fun p hp hI=>?_) ?_ (F.push _) (fun p hp=>⟨Heap.get?_push_of_some _ (N p hp).1,(N p hp).2⟩) trivial (rest₀ _ _ fun p hp=>Heap.lt_size (N p hp).1)
 ·obtain ⟨hi,t',rfl⟩:=hp
  exact ⟨Itm.tok fun t=>Value.int (a + (i:Int) * c) t,by simp [a0,hi],t',rfl⟩
 ·exact ⟨[(s.heap.objs.size,_)],⟨⟨rfl,rfl⟩,trivial⟩,fun p hp=>by rw [sgX hp];exact st⟩
 ·have hb':b=s.heap.objs.size:=by simpa using hb
  rw [hb']
  exact ⟨List.mem_cons_self ..,next_is_new F⟩
 ·intro hm
  exact absurd F.ns.lt ((sgX hm)▸Nat.lt_irrefl _)
 ·exact absurd (Heap.lt_size (N p hp).1) ((sgX hI)▸Nat.lt_irrefl _)
 ·show IsRangeIter _ _ _ _ _
  simpa using Heap.get?_push_size _ rfl
theorem sC {a c:Int} {n i:Nat} {x:Itm} {v:Value} {h:Heap} (ha:(a0 a c n)[i]?=some x) (hv:x.Is v h):i < n∧∃ t,v=Value.int (a + (i:Int) * c) t:=by
 unfold a0 at ha
 rw [List.getElem?_map] at ha
 by_cases hi:i < n
 ·rw [List.getElem?_range hi] at ha
  cases ha
  obtain ⟨t,e⟩:=hv
  exact ⟨hi,t,e⟩
 ·rw [List.getElem?_eq_none (by simpa using hi)] at ha
  exact aV ha
end
theorem Bd {name qual:Str} {params:Arguments} {body:FuncBody} {scope:Scope} {E1 E2:Env} {clos:List (Str×Addr)} {ds:List Value} {kd:List (Option Value)} {an:List (Str×Value)} {pos:Pos} {fl:Nat} (h1:closureFor scope E1=pure clos) (h2:closureFor scope E2=pure clos) (hg:E1.globals=E2.globals) (hb:E1.builtins=E2.builtins) (hc:E1.code=E2.code) (hk:E1.scope.kind=E2.scope.kind) :
  makeFunction name qual params body scope E1 ds kd an pos fl=makeFunction name qual params body scope E2 ds kd an pos fl:=by
 unfold makeFunction functionCode codeAt
 rw [h1,h2,hg,hb,hc,hk]
theorem xD {n:Nat} (h:n≤5):Builtin.Range.small 0 (1000 * (n:Int) - 1000) 1000=true∧Builtin.Range.rangeSize 0 (1000 * (n:Int) - 1000) 1000=((n - 1:Nat):Int):=by
 rcases (by lia:n=0∨n=1∨n=2∨n=3∨n=4∨n=5) with rfl | rfl | rfl | rfl | rfl | rfl <;> exact ⟨rfl,rfl⟩
end Mine
end
section
namespace Mine
noncomputable def five:List Nat:=[97,104,107,109,112]
noncomputable def upC (c:Nat):Nat:=if 97≤c then c - 32 else c
theorem di {c:Nat} (h:c∈five):c∈hdrChars:=by
 have:∀ c∈five,c∈hdrChars:=by decide
 exact this c h
theorem rl {c:Nat} (h:c∈five):upC c∈hdrChars:=by
 have:∀ c∈five,upC c∈hdrChars:=by decide
 exact this c h
theorem gR {c:Nat} (h:c∈five):d7 c=c:=by
 have:∀ c∈five,d7 c=c:=by decide
 exact this c h
theorem nK {c:Nat} (h:c∈five):d7 (upC c)=c:=by
 have:∀ c∈five,d7 (upC c)=c:=by decide
 exact this c h
noncomputable def ee (ps:List (Nat×Nat)):List (Nat×Nat):=ps.map fun e=>(e.2,e.1)
noncomputable def ef (ps:List (Nat×Nat)):List (Nat×Nat):=ps.map fun e=>(upC e.1,e.2)
noncomputable def highs (ps:List (Nat×Nat)) (c:Nat):List Nat:=(ps.filter fun e=>e.1==c).map (·.2)
noncomputable def lows (ps:List (Nat×Nat)) (c:Nat):List Nat:=(ps.filter fun e=>e.2==c).map (·.1)
noncomputable def stepH (low:Nat) (ps:List (Nat×Nat)) (high:Nat):List (Nat×Nat):=if (highs ps low).contains high then ps else ps++[(low,high)]
noncomputable def stepL (b:Nat) (ps:List (Nat×Nat)) (low:Nat):List (Nat×Nat):=(b::highs ps b).foldl (stepH low) ps
noncomputable def grown (a b:Nat) (ps:List (Nat×Nat)):List (Nat×Nat):=if a≠b∧(highs ps b).contains a=false then (a::lows ps a).foldl (stepL b) ps else ps
structure Good (ps:List (Nat×Nat)):Prop where
 nd:ps.Nodup
 mem:∀ e∈ps,e.1∈five∧e.2∈five
theorem wm {ps:List (Nat×Nat)} (G:∀ e∈ps,e.1∈five∧e.2∈five) (c:Nat):kH (ee ps) c=lows ps (d7 c):=by
 induction ps with
 | nil=>rfl
 | cons e ps ih =>
  have h:=ih fun e he=>G e (.tail _ he)
  unfold kH ee lows at *
  simp only [List.map_cons,List.filter_cons,gR (G e (.head _)).2]
  split <;> simp [h]
theorem wo {ps:List (Nat×Nat)} (G:∀ e∈ps,e.1∈five∧e.2∈five) (c:Nat):kH (ef ps) c=highs ps (d7 c):=by
 induction ps with
 | nil=>rfl
 | cons e ps ih =>
  have h:=ih fun e he=>G e (.tail _ he)
  unfold kH ef highs at *
  simp only [List.map_cons,List.filter_cons,nK (G e (.head _)).1]
  split <;> simp [h]
theorem Be {α:Type} [BEq α] [LawfulBEq α]:∀ (l r:List α),l.Nodup→(∀ x∈l,x∈r)→l.length≤r.length:=by
 intro zz
 induction zz with
 | nil =>
  intro _ _ _
  exact Nat.zero_le _
 | cons a l ih =>
  intro r hn hs
  have ha:=hs a (.head _)
  have h1:(r.erase a).length=r.length - 1:=List.length_erase_of_mem ha
  have h2:0 < r.length:=List.length_pos_of_mem ha
  have hn':=List.nodup_cons.mp hn
  have:=ih (r.erase a) hn'.2 fun x hx=>(List.mem_erase_of_ne (fun e=>hn'.1 (by rw [← e];exact hx))).mpr (hs x (.tail _ hx))
  simp only [List.length_cons];lia
noncomputable def wq:List (Nat×Nat):=five.flatMap fun a=>five.map fun b=>(a,b)
theorem sD {e:Nat×Nat} (h:e.1∈five∧e.2∈five):e∈wq:=List.mem_flatMap.mpr ⟨e.1,h.1,List.mem_map.mpr ⟨e.2,h.2,rfl⟩⟩
theorem Good.len {ps:List (Nat×Nat)} (G:Good ps):ps.length≤25:=Be ps wq G.nd fun e he=>sD (G.mem e he)
theorem mem_highs {ps:List (Nat×Nat)} {c d:Nat}:d∈highs ps c↔(c,d)∈ps:=by
 unfold highs
 constructor
 ·intro h
  obtain ⟨e,he⟩:=bI h
  obtain ⟨h1,h2⟩:=List.mem_filter.mp he
  have:e.1=c:=by simpa using h2
  rw [← this];exact h1
 ·intro h
  exact List.mem_map.mpr ⟨(c,d),List.mem_filter.mpr ⟨h,by simp⟩,rfl⟩
theorem mem_lows {ps:List (Nat×Nat)} {c d:Nat}:d∈lows ps c↔(d,c)∈ps:=by
 unfold lows
 constructor
 ·intro h
  obtain ⟨e,he⟩:=bI h
  obtain ⟨h1,h2⟩:=List.mem_filter.mp he
  have:e.2=c:=by simpa using h2
  rw [← this];exact h1
 ·intro h
  exact List.mem_map.mpr ⟨(d,c),List.mem_filter.mpr ⟨h,by simp⟩,rfl⟩
theorem Good.highs {ps:List (Nat×Nat)} (G:Good ps) {c:Nat}:∀ d∈highs ps c,d∈five:=fun d h=>(G.mem _ (mem_highs.mp h)).2
theorem Good.lows {ps:List (Nat×Nat)} (G:Good ps) {c:Nat}:∀ d∈lows ps c,d∈five:=fun d h=>(G.mem _ (mem_lows.mp h)).1
theorem Good.stepH {ps:List (Nat×Nat)} (G:Good ps) {l h:Nat} (hl:l∈five) (hh:h∈five):Good (stepH l ps h):=by
 unfold Mine.stepH
 split
 ·exact G
 ·rename_i hc
  have hn:(l,h)∉ps:=fun hm=>hc (by simpa using mem_highs.mpr hm)
  refine ⟨List.nodup_append.mpr ⟨G.nd,by simp,?_⟩,fun e he=>?_⟩
  ·intro x hx y hy e
   rw [sgX hy] at e
   exact hn (e▸hx)
  ·rcases apX he with he | he
   ·exact G.mem e he
   ·rw [sgX he];exact ⟨hl,hh⟩
theorem Good.foldH {l:Nat} (hl:l∈five):∀ (hs:List Nat) {ps:List (Nat×Nat)},Good ps→(∀ h∈hs,h∈five)→Good (hs.foldl (Mine.stepH l) ps):=by
 intro zz
 induction zz with
 | nil =>
  intro _ G _
  exact G
 | cons h hs ih =>
  intro _ G H
  exact ih (G.stepH hl (H h (.head _))) fun x hx=>H x (.tail _ hx)
theorem Good.stepL {ps:List (Nat×Nat)} (G:Good ps) {b l:Nat} (hb:b∈five) (hl:l∈five):Good (stepL b ps l) :=
 Good.foldH hl _ G fun h hm=>by
  rcases cnX hm with rfl | hm
  ·exact hb
  ·exact G.highs h hm
theorem Good.foldL {b:Nat} (hb:b∈five):∀ (ls:List Nat) {ps:List (Nat×Nat)},Good ps→(∀ l∈ls,l∈five)→Good (ls.foldl (Mine.stepL b) ps)
 | [],_,G,_=>G
 | l::ls,_,G,H=>Good.foldL hb ls (G.stepL hb (H l (.head _))) fun x hx=>H x (.tail _ hx)
theorem Good.grown {ps:List (Nat×Nat)} (G:Good ps) {a b:Nat} (ha:a∈five) (hb:b∈five):Good (grown a b ps):=by
 unfold Mine.grown
 split
 ·exact Good.foldL hb _ G fun h hm=>by
   rcases cnX hm with rfl | hm
   ·exact ha
   ·exact G.lows h hm
 ·exact G
theorem Good.eb {ps:List (Nat×Nat)} (G:Good ps):kI (ee ps):=fun e he=>by
 obtain ⟨x,hx⟩:=bI he
 exact di (G.mem x hx).2
theorem Good.ea {ps:List (Nat×Nat)} (G:Good ps):kI (ef ps):=fun e he=>by
 obtain ⟨x,hx⟩:=bI he
 exact rl (G.mem x hx).1
inductive Bf (cs:List Nat) (i:Nat) (v:Value):Prop
 | mk (c:Nat) (t:Tok):cs[i]?=some c→v=Value.str (one c) t→Bf cs i v
theorem gS {vs:List Value} {cs:List Nat} (h:StrsAre vs (cs.map one)):∀ (i:Nat) (v:Value),vs[i]?=some v→Bf cs i v:=by
 generalize he:cs.map one=ys at h
 induction h generalizing cs with
 | nil=>intro i v h;simp at h
 | cons y t hr ih =>
  intro i v h
  cases cs with
  | nil=>cases he
  | cons c cs =>
   obtain ⟨h1,h2⟩:=List.cons.inj he
   cases i with
   | zero=>exact ⟨c,t,rfl,by simp at h;rw [← h, ← h1]⟩
   | succ i =>
    obtain ⟨c',t',a,b⟩:=ih h2 i v h
    exact ⟨c',t',a,b⟩
theorem Two.of {fixed nx:List (Addr×Obj)} {lb la:Addr} {eb ea eb' ea':List (Nat×Nat)} (T:Two fixed nx lb la eb ea) (h1:eb=eb') (h2:ea=ea'):Two fixed nx lb la eb' ea':=by subst h1 h2;exact T
theorem Bg (ps:List (Nat×Nat)) (c:Nat):(lows ps c).length≤ps.length:=by simp only [lows,List.length_map];exact List.length_filter_le ..
theorem xE (ps:List (Nat×Nat)) (c:Nat):(highs ps c).length≤ps.length:=by simp only [highs,List.length_map];exact List.length_filter_le ..
theorem xF:(five.all fun c=>Txt.upper (Str.mk #[c])==Str.mk #[upC c])=true:=by kernel_rfl
theorem upper_one {c:Nat} (h:c∈five):Txt.upper (one c)=one (upC c):=by simpa using List.all_eq_true.mp xF c h
theorem Bh {l:List Nat} {c:Nat} (h:((l.map one).any fun x=>x==one c)=false):l.contains c=false:=by
 cases e:l.contains c with
 | false=>rfl
 | true =>
  have:((l.map one).any fun x=>x==one c)=true:=by
   rw [List.any_eq_true]
   exact ⟨one c,List.mem_map.mpr ⟨c,by simpa using e,rfl⟩,by simp⟩
  rw [this] at h;exact kE h
theorem Bi {l:List Nat} {c:Nat} (h:((l.map one).any fun x=>x==one c)=true):l.contains c=true:=by
 rw [List.any_eq_true] at h
 obtain ⟨x,hx,e⟩:=h
 obtain ⟨y,hy⟩:=bI hx
 have:y=c:=by simpa [one] using e
 subst this
 simpa using hy
theorem Ju {a b:Nat}:Txt.item (Str.mk #[a,b]) 0=one a:=rfl
theorem Jv {a b:Nat}:Txt.item (Str.mk #[a,b]) 1=one b:=rfl
theorem Two.mores {fixed nx:Led} {lb la:Addr} {eb ea:List (Nat×Nat)} (T:Two fixed nx lb la eb ea) {its:Led} (h:∀ p∈nx,∀ q∈its,p.1≠q.1):Ex3 (fun nx'=>Two (its++fixed) nx' lb la eb ea) (fun nx'=>∀ p∈nx',p∈its++nx) (fun _=>∀ q∈its,q.1≠lb∧q.1≠la):=by
 obtain ⟨vb,nb,va,na,tups,rfl,hb,ha,hp⟩:=T
 refine ⟨_,⟨vb,nb,va,na,tups,rfl,hb,ha,fun p hm=>⟨(hp p hm).1,(hp p hm).2.1,fun r hr=>?_⟩⟩,fun p hm=>?_,fun q hq=>⟨fun e=>h _ (.head _) q hq e.symm,fun e=>h _ (.tail _ (.head _)) q hq e.symm⟩⟩
 ·rcases apX hr with hr | hr
  ·exact h p (.tail _ (.tail _ (apL hm))) r hr
  ·exact (hp p hm).2.2 r hr
 ·simp only [List.mem_cons,List.mem_append] at hm ⊢
  rcases hm with h | h | h | h | h <;> simp [h]
theorem Two.lessM {fixed nx:Led} {lb la:Addr} {eb ea:List (Nat×Nat)} {its:Led} (T:Two (its++fixed) nx lb la eb ea) (h:∀ q∈its,q.1≠lb∧q.1≠la) (hf:∀ p∈fixed,∀ q∈its,p.1≠q.1):Ex3 (fun nx'=>Two fixed nx' lb la eb ea) (fun nx'=>∀ p∈its++nx',p∈nx) (fun nx'=>∀ p∈nx',∀ q∈its,p.1≠q.1):=by
 obtain ⟨vb,nb,va,na,tups,rfl,hb,ha,hp⟩:=T
 refine ⟨_,⟨vb,nb,va,na,tups,rfl,hb,ha,fun p hm=>⟨(hp p hm).1,(hp p hm).2.1,fun r hr=>(hp p hm).2.2 r (apR hr)⟩⟩,fun p hm=>?_,fun p hm q hq=>?_⟩
 ·simp only [List.mem_cons,List.mem_append] at hm ⊢
  rcases hm with h | h | h | h | h <;> simp [h]
 ·rcases cnX hm with rfl | hm
  ·exact Ne.symm (h q hq).1
  ·rcases cnX hm with rfl | hm
   ·exact Ne.symm (h q hq).2
   ·rcases apX hm with hm | hm
    ·exact (hp p hm).2.2 q (apL hq)
    ·exact hf p hm q hq
theorem Tabs.mores {w:World} {fixed:Led} {xb db lb xa da la:Addr} (T:Tabs w fixed xb db lb xa da la) {its:Led} (h:∀ q∈its,q.1≠lb∧q.1≠la):Tabs w (its++fixed) xb db lb xa da la :=
 ⟨apR T.ib,T.jb.imp fun _ h=>apR h,apR T.ia,T.ja.imp fun _ h=>apR h,T.ne,fun p hp=>(apX hp).elim (h p) (T.off p)⟩
theorem nL {F:Fm} {pm:PM} {nx:Led} (ok:F.Ok) {a:PV} {z y:Str} {Q:KV} (ha:asS a=some z) (hz:z.length≤1000) (hy:Txt.upper z=y) (h:Q (.s y) pm nx):aI F (.builtin "str.upper") [a] pm nx Q:=by
 subst hy
 refine dB fun x hx s P hR hP=>?_
 obtain ⟨t,rfl⟩:=aJ ha hx
 exact SCL.upper (Nat.le_trans hz (by decide)) fun _=>hP _ _ _ _ _ h ⟨_,rfl⟩ (ok.toks _ hR)
section
variable {C:Cx} {w:World} {sc:Scope} {pm:PM} {nx:Led} {D:Nat} {fixed X:Led} {xb db lb xa da la:Addr} {ps:List (Nat×Nat)} {c:Nat}
theorem GU (hC:C.Ok w sc D) (h0:C.cl=[]) (hD:5≤D) (T:Two fixed X lb la (ee ps) (ef ps)) (H:Tabs w fixed xb db lb xa da la) (G:Good ps) (hX:∀ p∈X,p∈nx) (hc:c∈five) {a:PV} {o e:Expr} {p1 p2:Pos} {Q:KV}
  (ho:∀ Q:KV,Q (.v (.ref xa)) pm nx→(WW (C.fm w sc) 30).1 o pm nx Q) (he:∀ Q:KV,Q a pm nx→(WW (C.fm w sc) 30).1 e pm nx Q) (ha:asS a=some (one c)) (hn:notStar e=true)
  (hp:eval (.Call (.Attribute o (Str.ofString "get_all") p1) [e] [] p2) (C.fm w sc).env=(do
   let ov ← eval o (C.fm w sc).env
   standAt p1.atName
   let (f,first) ← holding [ov] (getMethod ov (Str.ofString "get_all") (do return (← importBound o (C.fm w sc).env).getD true))
   callWith p2 f first (backTo p2 (starEach [e] (C.fm w sc).env)) []))
  (h:∀ E ys,(∀ p∈nx,p.1≠E)→StrsAre ys ((highs ps c).map one)→Q (.v (.ref E)) pm ((E,W.listOf ys.toArray ys.length)::nx)) :
  GoV (C.fm w sc) (eval (.Call (.Attribute o (Str.ofString "get_all") p1) [e] [] p2) (C.fm w sc).env) pm nx Q:=by
 obtain ⟨t,hj⟩:=H.ja
 refine aN (Cx.fmOk hC) (ho _ (gP (Cx.fmOk hC) (hX _ (T.fixed _ H.ia)) (hX _ (T.fixed _ hj)) (cwF (Cx.fmOk hC) ?_))) hp
 unfold bN
 rw [hn]
 refine he _ ?_
 refine call2 fun x y hx hy=>?_
 obtain rfl:=hx
 obtain ⟨u,rfl⟩:=aJ ha hy
 refine hC.use0 h0 hD (fun _ h=>h) (Fv T H hX (di hc) G.ea (by simp only [ef,List.length_map];exact Nat.le_trans G.len (by decide))) ?_
 rintro v nx' ⟨E,ys,rfl,rfl,hE,hy⟩
 rw [wo G.mem,gR hc] at hy
 exact ⟨.v (.ref E),rfl,h E ys hE hy⟩
theorem Kq (hC:C.Ok w sc D) (h0:C.cl=[]) (hD:5≤D) (T:Two fixed X lb la (ee ps) (ef ps)) (H:Tabs w fixed xb db lb xa da la) (G:Good ps) (hX:∀ p∈X,p∈nx) (hc:c∈five) {a:PV} {o e:Expr} {p1 p2:Pos} {Q:KV}
  (ho:∀ Q:KV,Q (.v (.ref xb)) pm nx→(WW (C.fm w sc) 30).1 o pm nx Q) (he:∀ Q:KV,Q a pm nx→(WW (C.fm w sc) 30).1 e pm nx Q) (ha:asS a=some (one c)) (hn:notStar e=true)
  (hp:eval (.Call (.Attribute o (Str.ofString "get_all") p1) [e] [] p2) (C.fm w sc).env=(do
   let ov ← eval o (C.fm w sc).env
   standAt p1.atName
   let (f,first) ← holding [ov] (getMethod ov (Str.ofString "get_all") (do return (← importBound o (C.fm w sc).env).getD true))
   callWith p2 f first (backTo p2 (starEach [e] (C.fm w sc).env)) []))
  (h:∀ E ys,(∀ p∈nx,p.1≠E)→StrsAre ys ((lows ps c).map one)→Q (.v (.ref E)) pm ((E,W.listOf ys.toArray ys.length)::nx)) :
  GoV (C.fm w sc) (eval (.Call (.Attribute o (Str.ofString "get_all") p1) [e] [] p2) (C.fm w sc).env) pm nx Q:=by
 obtain ⟨t,hj⟩:=H.jb
 refine aN (Cx.fmOk hC) (ho _ (gP (Cx.fmOk hC) (hX _ (T.fixed _ H.ib)) (hX _ (T.fixed _ hj)) (cwF (Cx.fmOk hC) ?_))) hp
 unfold bN
 rw [hn]
 refine he _ ?_
 refine call2 fun x y hx hy=>?_
 obtain rfl:=hx
 obtain ⟨u,rfl⟩:=aJ ha hy
 refine hC.use0 h0 hD (fun _ h=>h) (Fu T H hX (di hc) G.eb (by simp only [ee,List.length_map];exact Nat.le_trans G.len (by decide))) ?_
 rintro v nx' ⟨E,ys,rfl,rfl,hE,hy⟩
 rw [wm G.mem,gR hc] at hy
 exact ⟨.v (.ref E),rfl,h E ys hE hy⟩
end
theorem nM {a:Nat} {l:List Nat} {i c:Nat} (h:(a::l)[i]?=some c) {α:Type} (f:α→Nat→α) (x:α):((a::l).take (i + 1)).foldl f x=f (((a::l).take i).foldl f x) c:=by
 rw [List.take_add_one,h];simp
theorem ips {vs:List Value} {cs:List Nat} (h:StrsAre vs (cs.map one)) (i:Nat) (v:Value) (hv:vs[i]?=some v):(PV.s (one (cs.getD i 0))).Is v:=by
 obtain ⟨c,t,h1,rfl⟩:=gS h i v hv
 rw [List.getD_eq_getElem?_getD,h1]
 exact ⟨t,rfl⟩
theorem getD_at {cs:List Nat} {i:Nat} (h:i < cs.length):cs[i]?=some (cs.getD i 0):=by
 rw [List.getD_eq_getElem?_getD,List.getElem?_eq_getElem h];rfl
theorem GV {a b:Nat} (h:(one a !=one b)=true):a≠b:=by
 rintro rfl
 simp at h
theorem wt {a b:Nat} (h:(one a !=one b)=false):a=b:=by
 have:one a=one b:=by simpa using h
 simpa [one] using this
theorem wu {F:Fm} {pm:PM} {nx:Led} (ok:F.Ok) {a i:Expr} {po pi:PV} {x y:Nat} {Q:KV} (hz:asS po=some (Str.mk #[x,y])) (hi:asI pi=some 0) (h:Q (.s (one x)) pm nx) (hn:bO i=true:=by rfl):ow F a i po pi pm nx Q :=
 dU ok hz hi (show -(2:Int)≤0 by decide) (show (0:Int) < 2 by decide) (show 2≤1000 by decide) Ju h hn
theorem wx {F:Fm} {pm:PM} {nx:Led} (ok:F.Ok) {a i:Expr} {po pi:PV} {x y:Nat} {Q:KV} (hz:asS po=some (Str.mk #[x,y])) (hi:asI pi=some 1) (h:Q (.s (one y)) pm nx) (hn:bO i=true:=by rfl):ow F a i po pi pm nx Q :=
 dU ok hz hi (show -(2:Int)≤1 by decide) (show (1:Int) < 2 by decide) (show 2≤1000 by decide) Jv h hn
noncomputable abbrev gPm (xb xa:Addr) (pa pb:Nat) (t:Tok):PM:=[(Str.ofString "below",.v (.ref xb)),(Str.ofString "above",.v (.ref xa)),(Str.ofString "pair",.v (.str (Str.mk #[pa,pb]) t))]
noncomputable abbrev gPl (xb xa:Addr) (pa pb:Nat) (t:Tok) (low:Nat):PM:=[(Str.ofString "below",.v (.ref xb)),(Str.ofString "above",.v (.ref xa)),(Str.ofString "pair",.v (.str (Str.mk #[pa,pb]) t)),(Str.ofString "low",.s (one low))]
theorem tX {w:World} {fixed nx:Led} {xb db lb xa da la:Addr} {ps:List (Nat×Nat)} {pa pb:Nat} {t:Tok} (T2:Two fixed nx lb la (ee ps) (ef ps)) (H:Tabs w fixed xb db lb xa da la) (G:Good ps) (hpa:pa∈five) (hpb:pb∈five) :
  ah w (.ref 342) [.ref xb,.ref xa,.str (Str.mk #[pa,pb]) t] [] 9 nx (fun v nx'=>v=.none∧Two fixed nx' lb la (ee (grown pa pb ps)) (ef (grown pa pb ps))):=by
 refine enter (D:=8) [(Str.ofString "below",Value.ref xb),(Str.ofString "above",Value.ref xa),(Str.ofString "pair",Value.str (Str.mk #[pa,pb]) t)] rfl rfl (fun s _=>BindsTo.of_eq rfl) rfl rfl fun C hC lN hcl Q hr hn hw=>?_
 have ok:=Cx.fmOk hC
 clear hr
 refine aq ok ?_
 refine wu ok rfl rfl ?_
 refine wx ok rfl rfl ?_
 refine And.intro (fun hne=>?_) (fun heq=>And.intro nofun fun _=>hn _ _ ⟨rfl,T2.of ?_ ?_⟩)
 rotate_left
 ·unfold grown;rw [if_neg fun h=>h.1 (wt heq)]
 ·unfold grown;rw [if_neg fun h=>h.1 (wt heq)]
 refine wu ok rfl rfl ?_
 refine GU hC hcl (by decide) T2 H G (fun _ h=>h) hpb (fun _ h=>h) (fun _ h=>wx ok rfl rfl h) rfl rfl rfl fun E1 y1 hE1 hy1=>?_
 refine so ok rfl (.head _) hy1 ?_
 refine And.intro (fun hnin=>And.intro (fun _=>?_) nofun) (fun hin=>And.intro nofun fun _=>hw _ _ _ nx (fun _ h=>.tail _ h) (hn _ _ ⟨rfl,T2.of ?_ ?_⟩))
 rotate_left
 ·unfold grown;rw [if_neg fun h=>Bool.false_ne_true (h.2.symm.trans (Bi (by simpa using hin)))]
 ·unfold grown;rw [if_neg fun h=>Bool.false_ne_true (h.2.symm.trans (Bi (by simpa using hin)))]
 have hl5:∀ x∈pa::lows ps pa,x∈five:=fun x hx=>(cnX hx).elim (fun e=>e▸hpa) fun hx=>G.lows x hx
 refine iR hC ?_
 refine wu ok rfl rfl ?_
 refine bj ok (aD rfl) fun E2 x2 hx2 hE2=>?_
 obtain ⟨x,t1,rfl⟩:=AllIs.one hx2
 refine Kq hC hcl (by decide) T2 H G (fun _ h=>.tail _ (.tail _ h)) hpa (fun _ h=>h) (fun _ h=>wu ok rfl rfl h) rfl rfl rfl fun E3 y3 hE3 hy3=>?_
 refine nz ok (.tail _ (.head _)) (.head _) (by rw [hy3.length,List.length_map];exact Nat.le_trans (Nat.add_le_add_left (Nat.le_trans (Bg _ _) G.len) _) (aD rfl)) fun E4 hE4=>?_
 have hy4:StrsAre ([Value.str (one pa) t1]++y3) ((pa::lows ps pa).map one):=.cons _ _ hy3
 generalize [Value.str (one pa) t1]++y3=v4 at hy4 ⊢
 have hln:v4.length=(pa::lows ps pa).length:=by rw [hy4.length,List.length_map]
 obtain ⟨X4,T4,hX4,hq4⟩:=T2.more (q:=(E4,W.listOf v4.toArray 0)) (fun p hp=>Nat.ne_of_lt (hE4 p (.tail _ (.tail _ (.tail _ hp)))))
 have H4:=H.more hq4
 generalize hfx:(E4,W.listOf v4.toArray 0)::fixed=fx at T4 H4
 have hm4:(E4,W.listOf v4.toArray 0)∈fx:=hfx▸.head _
 refine oY hC (fun _=>gPm xb xa pa pb t) (fun X=>X) (fun i X=>Two fx X lb la (ee (((pa::lows ps pa).take i).foldl (stepL pb) ps)) (ef (((pa::lows ps pa).take i).foldl (stepL pb) ps))) X4 (fun i X T=>T.fixed _ hm4) ⟨T4,⟨rfl,rfl,rfl,trivial⟩,fun p hp=>?_⟩ (fun i X its hi T hoff Q1 hQ1 hR1=>?_) (fun X T=>?_)
 ·exact (cnX (hX4 p hp)).elim (fun e=>e▸.head _) fun h=>.tail _ (.tail _ (.tail _ (.tail _ h)))
 ·have hi':i < (pa::lows ps pa).length:=hln▸hi
  have hc:=getD_at hi'
  have hcI:=ips hy4 i
  generalize (pa::lows ps pa).getD i 0=c at hc hcI
  have hc5:c∈five:=hl5 c (List.mem_of_getElem? hc)
  have G4:Good (((pa::lows ps pa).take i).foldl (stepL pb) ps):=Good.foldL hpb _ G fun x hx=>hl5 x (List.mem_of_mem_take hx)
  have hstep:=nM hc (stepL pb) ps
  generalize ((pa::lows ps pa).take i).foldl (stepL pb) ps=ps4 at G4 T hstep
  obtain ⟨X5,T5,hX5,hq5⟩:=T.mores hoff
  have H5:=H4.mores hq5
  have hh5:∀ x∈pb::highs ps4 pb,x∈five:=fun x hx=>(cnX hx).elim (fun e=>e▸hpb) fun hx=>G4.highs x hx
  refine ⟨.s (one c),X5,hcI,hX5,?_⟩
  refine iR hC ?_
  refine wx ok rfl rfl ?_
  refine bj ok (aD rfl) fun F2 x2 hx2 hF2=>?_
  obtain ⟨x,t2,rfl⟩:=AllIs.one hx2
  refine GU hC hcl (by decide) T5 H5 G4 (fun _ h=>.tail _ h) hpb (fun _ h=>h) (fun _ h=>wx ok rfl rfl h) rfl rfl rfl fun F3 z3 hF3 hz3=>?_
  refine nz ok (.tail _ (.head _)) (.head _) (by rw [hz3.length,List.length_map];exact Nat.le_trans (Nat.add_le_add_left (Nat.le_trans (xE _ _) G4.len) _) (aD rfl)) fun F4 hF4=>?_
  have hz4:StrsAre ([Value.str (one pb) t2]++z3) ((pb::highs ps4 pb).map one):=.cons _ _ hz3
  generalize [Value.str (one pb) t2]++z3=u4 at hz4 ⊢
  have hln2:u4.length=(pb::highs ps4 pb).length:=by rw [hz4.length,List.length_map]
  obtain ⟨X6,T6,hX6,hq6⟩:=T5.more (q:=(F4,W.listOf u4.toArray 0)) (fun p hp=>Nat.ne_of_lt (hF4 p (.tail _ (.tail _ hp))))
  have H6:=H5.more hq6
  generalize hgx:(F4,W.listOf u4.toArray 0)::(its++fx)=gx at T6 H6
  have hm6:(F4,W.listOf u4.toArray 0)∈gx:=hgx▸.head _
  refine oY hC (fun _=>gPl xb xa pa pb t c) (fun X=>X) (fun i X=>Two gx X lb la (ee (((pb::highs ps4 pb).take i).foldl (stepH c) ps4)) (ef (((pb::highs ps4 pb).take i).foldl (stepH c) ps4))) X6 (fun i X T=>T.fixed _ hm6) ⟨T6,⟨rfl,rfl,rfl,rfl,trivial⟩,fun p hp=>?_⟩ (fun j Y jts hj T7 joff Q2 hQ2 hR2=>?_) (fun Y T7=>?_)
  ·exact (cnX (hX6 p hp)).elim (fun e=>e▸.head _) fun h=>.tail _ (.tail _ (.tail _ h))
  ·have hj':j < (pb::highs ps4 pb).length:=hln2▸hj
   have hd:=getD_at hj'
   have hdI:=ips hz4 j
   generalize (pb::highs ps4 pb).getD j 0=d at hd hdI
   have hd5:d∈five:=hh5 d (List.mem_of_getElem? hd)
   have G7:Good (((pb::highs ps4 pb).take j).foldl (stepH c) ps4):=Good.foldH hc5 _ G4 fun x hx=>hh5 x (List.mem_of_mem_take hx)
   have hstep2:=nM hd (stepH c) ps4
   generalize ((pb::highs ps4 pb).take j).foldl (stepH c) ps4=ps7 at G7 T7 hstep2
   obtain ⟨X8,T8,hX8,hq8⟩:=T7.mores joff
   have H8:=H6.mores hq8
   refine ⟨.s (one d),X8,hdI,hX8,?_⟩
   refine aq ok ?_
   refine GU hC hcl (by decide) T8 H8 G7 (fun _ h=>h) hc5 (fun _ h=>h) (fun _ h=>h) rfl rfl rfl fun F5 z5 hF5 hz5=>?_
   refine so ok rfl (.head _) hz5 ?_
   have fin:∀ {nx' ps'},Two (jts++gx) nx' lb la (ee ps') (ef ps')→ps'=stepH c ps7 d→(∀ nx'',(∀ p∈nx',p∈nx'')→Q2 .next (put (Str.ofString "high") (.s (one d)) (gPl xb xa pa pb t c)) nx''):=fun T9 e nx'' hs2=>by
    obtain ⟨Y',T',hY,off⟩:=T9.lessM hq8 fun p hp q hq=>joff p (T7.fixed p hp) q hq
    exact hQ2 _ _ Y' (T'.of (congrArg ee (e.trans hstep2.symm)) (congrArg ef (e.trans hstep2.symm))) ⟨rfl,rfl,rfl,rfl,trivial⟩ (fun p hp=>hs2 p (hY p hp)) off
   refine And.intro (fun hnin=>?_) (fun hin=>?_)
   ·refine aN ok (sq ok (.tail _ (T8.fixed _ H8.ia)) (.tail _ (T8.fixed _ H8.ja.choose_spec)) (cwF ok ?_))
    refine aN ok (sk rfl PySem.F.slot_str_upper PySem.F.type_str_upper (GH (nL ok rfl (aD rfl) (upper_one hc5) ?_)))
    refine gN fun u1 u2 u3 k1 k2 k3=>?_
    obtain rfl:=k1;obtain ⟨t2,rfl⟩:=k2;obtain ⟨t3,rfl⟩:=k3
    refine hC.use0 hcl (by decide) (fun _ h=>.tail _ h) (ID T8 H8 (rl hc5) (di hd5) (by simp only [ef,List.length_map];exact Nat.le_trans G7.len (by decide))) ?_
    rintro v nx9 ⟨rfl,T9⟩
    refine ⟨.v .none,rfl,?_⟩
    refine aN ok (sq ok (T9.fixed _ H8.ib) (T9.fixed _ H8.jb.choose_spec) (cwF ok ?_))
    refine gN fun u1 u2 u3 k1 k2 k3=>?_
    obtain rfl:=k1;obtain ⟨t2,rfl⟩:=k2;obtain ⟨t3,rfl⟩:=k3
    refine hC.use0 hcl (by decide) (fun _ h=>h) (IC T9 H8 (di hd5) (di hc5) (by simp only [ee,List.length_map];exact Nat.le_trans G7.len (by decide))) ?_
    rintro v nx8 ⟨rfl,T10⟩
    refine ⟨.v .none,rfl,fin (ps':=ps7++[(c,d)]) (T10.of (by simp [ee]) (by simp [ef])) ?_ _ fun _ h=>h⟩
    unfold stepH
    rw [if_neg (by rw [Bh (by simpa using hnin)];exact Bool.false_ne_true)]
   ·exact fin T8 (by unfold stepH;rw [if_pos (Bi (by simpa using hin))]) _ fun _ h=>.tail _ h
  ·rw [hln2,List.take_length] at T7
   subst hgx
   obtain ⟨Y8,T8,hY8,_⟩:=T7.less hq6 fun p hp=>Nat.ne_of_lt (hF4 p (.tail _ (.tail _ (T5.fixed p hp))))
   obtain ⟨Y9,T9,hY9,off9⟩:=T8.lessM hq5 fun p hp q hq=>hoff p (T.fixed p hp) q hq
   exact hQ1 _ _ Y9 (T9.of (congrArg ee hstep.symm) (congrArg ef hstep.symm)) ⟨rfl,rfl,rfl,trivial⟩ (fun p hp=>hY8 p (hY9 p hp)) off9
 ·rw [hln,List.take_length] at T
  subst hfx
  obtain ⟨X8,T8,hX8,_⟩:=T.less hq4 fun p hp=>Nat.ne_of_lt (hE4 p (.tail _ (.tail _ (.tail _ (T2.fixed p hp)))))
  have e2:grown pa pb ps=(pa::lows ps pa).foldl (stepL pb) ps:=by
   unfold grown
   rw [if_pos ⟨GV hne,Bh (by simpa using hnin)⟩]
  exact hw _ _ _ X8 hX8 (hn _ _ ⟨rfl,e2▸T8⟩)
end Mine
end
section
namespace Mine
theorem GW (lt:Nat→Bool) {r:Nat}:∀ {lo hi:Nat},lo≤r→r≤hi→(∀ i,lo≤i→i < r→lt i=true)→(∀ i,r≤i→i < hi→lt i=false)→bis lt lo hi=r:=by
 intro lo hi h1 h2 ht hf
 induction hn:hi - lo using Nat.strongRecOn generalizing lo hi with
 | ind n ih =>
  subst hn
  by_cases hlt:lo < hi
  ·have m1:=(half lo hi).1 hlt
   have m2:=(half lo hi).2 hlt
   rw [fe lt hlt]
   generalize (lo + hi) / 2=m at m1 m2 ⊢
   cases hl:lt m with
   | true =>
    have hr:m < r:=Nat.lt_of_not_le fun h=>by rw [hf m h m2] at hl;exact bA hl
    exact ih _ (oS hlt m1) hr h2 (fun i a b=>ht i (Nat.le_trans m1 (Nat.le_of_succ_le a)) b) hf rfl
   | false =>
    have hr:r≤m:=Nat.le_of_not_lt fun h=>by rw [ht m m1 h] at hl;exact kE hl
    exact ih _ (Nat.sub_lt_sub_right m1 m2) h1 hr ht (fun i a b=>hf i a (Nat.lt_trans b m2)) rfl
  ·rw [gL lt hlt]
   exact Nat.le_antisymm h1 (Nat.le_trans h2 (Nat.not_lt.mp hlt))
theorem wy {p:Int→Bool} {lt:Nat→Bool} {ns C A B D:List Int} (he:ns=C++(A++(B++D))) (hlt:∀ i,lt i=p (ns.getD i 0)) (hA:∀ a∈A,p a=true) (hB:∀ b∈B,p b=false) {hi:Nat} (hhi:hi=C.length + A.length + B.length):bis lt C.length hi=C.length + A.length:=by
 subst he hhi
 refine GW lt (Nat.le_add_right _ _) (Nat.le_add_right _ _) (fun i h1 h2=>?_) (fun i h1 h2=>?_)
 ·have q:=Nat.sub_lt_left_of_lt_add h1 h2
  rw [hlt]
  apply hA
  rw [List.getD_eq_getElem?_getD,List.getElem?_append_right h1,List.getElem?_append_left q,List.getElem?_eq_getElem q]
  exact List.getElem_mem _
 ·have q1:=Nat.le_sub_of_add_le' h1
  have q2:=Nat.sub_lt_left_of_lt_add q1 (Nat.sub_lt_left_of_lt_add (Nat.le_trans (Nat.le_add_right _ _) h1) (Nat.add_assoc ..▸h2))
  rw [hlt]
  apply hB
  rw [List.getD_eq_getElem?_getD,List.getElem?_append_right (Nat.le_trans (Nat.le_add_right _ _) h1),List.getElem?_append_right q1,List.getElem?_append_left q2,List.getElem?_eq_getElem q2]
  exact List.getElem_mem _
theorem nN {ns C A B D:List Int} {x:Int} (he:ns=C++(A++(B++D))) (hA:∀ a∈A,a < x) (hB:∀ b∈B,¬ b < x) {hi:Nat} (hhi:hi=C.length + A.length + B.length):bis (ltI ns x) C.length hi=C.length + A.length :=
 wy (p:=fun a=>decide (a < x)) he (fun _=>rfl) (fun a ha=>decide_eq_true (hA a ha)) (fun b hb=>decide_eq_false (hB b hb)) hhi
theorem GX {ns C A B D:List Int} {x:Int} (he:ns=C++(A++(B++D))) (hA:∀ a∈A,¬ x < a) (hB:∀ b∈B,x < b) {hi:Nat} (hhi:hi=C.length + A.length + B.length):bis (leI ns x) C.length hi=C.length + A.length :=
 wy (p:=fun a => !decide (x < a)) he (fun _=>rfl) (fun a ha=>by simp [hA a ha]) (fun b hb=>by simp [hB b hb]) hhi
theorem Bj {ns A B:List Int} {x:Int} (he:ns=A++B) (hA:∀ a∈A,a < x) (hB:∀ b∈B,¬ b < x):bis (ltI ns x) 0 ns.length=A.length:=by
 have:=nN (C:=[]) (D:=[]) (ns:=ns) (by simpa using he) hA hB (hi:=ns.length) (by rw [he];simp)
 simpa using this
theorem GY {ns A B:List Int} {x:Int} (he:ns=A++B) (hA:∀ a∈A,¬ x < a) (hB:∀ b∈B,x < b):bis (leI ns x) 0 ns.length=A.length:=by
 have:=GX (C:=[]) (D:=[]) (ns:=ns) (by simpa using he) hA hB (hi:=ns.length) (by rw [he];simp)
 simpa using this
noncomputable def eV {α:Type} (l:List α) (k:Nat) (x:α):List α:=l.take k++x::l.drop k
theorem kW {α:Type} (l:List α) (k:Nat) (x:α):(eV l k x).length=l.length + 1:=by
 unfold eV
 have e:=congrArg List.length (List.take_append_drop k l)
 rw [List.length_append] at e
 rw [List.length_append,List.length_cons, ← Nat.add_assoc,e]
theorem rm {α:Type} (A B:List α) (x:α):eV (A++B) A.length x=A++x::B:=by
 unfold eV
 rw [List.take_left',List.drop_left'] <;> rfl
theorem sE {α:Type} {l:List α} {k:Nat} {x y:α} (h:y∈eV l k x):y∈l∨y=x:=by
 unfold eV at h
 rcases apX h with h | h
 ·exact .inl (List.mem_of_mem_take h)
 ·rcases cnX h with h | h
  ·exact .inr h
  ·exact .inl (List.mem_of_mem_drop h)
noncomputable def byV (f:Nat→Nat) (zs:List Nat) (l:List Nat):List Nat:=zs.flatMap fun z=>l.filter fun c=>f c==z
theorem bG (f:Nat→Nat) (a b l:List Nat):byV f (a++b) l=byV f a l++byV f b l:=List.flatMap_append
theorem kX {f:Nat→Nat} {zs l:List Nat} {c:Nat} (h:c∈byV f zs l):c∈l∧f c∈zs:=by
 unfold byV at h
 obtain ⟨z,hz,hc⟩:=List.mem_flatMap.mp h
 obtain ⟨h1,h2⟩:=List.mem_filter.mp hc
 exact ⟨h1,by rw [beq_iff_eq.mp h2];exact hz⟩
theorem gT {f:Nat→Nat} {x:Nat} {l:List Nat}:∀ {zs:List Nat},f x∉zs→byV f zs (l++[x])=byV f zs l:=by
 intro zz
 induction zz with
 | nil =>
  intro _
  exact rfl
 | cons z r ih =>
  intro h
  have h1:¬ f x=z:=fun e=>h (e▸.head _)
  have ih:=ih fun hm=>h (.tail _ hm)
  unfold byV at ih ⊢
  rw [List.flatMap_cons,List.flatMap_cons,ih,List.filter_append]
  simp [h1]
theorem ie {f:Nat→Nat} {x:Nat} {l:List Nat}:∀ {zs:List Nat},f x∉zs→byV f zs (x::l)=byV f zs l:=by
 intro zz
 induction zz with
 | nil =>
  intro _
  exact rfl
 | cons z r ih =>
  intro h
  have h1:¬ f x=z:=fun e=>h (e▸.head _)
  have ih:=ih fun hm=>h (.tail _ hm)
  unfold byV at ih ⊢
  rw [List.flatMap_cons,List.flatMap_cons,ih,List.filter_cons]
  simp [h1]
theorem rn (f:Nat→Nat) (x:Nat) (l:List Nat):byV f [f x] (l++[x])=byV f [f x] l++[x]:=by
 unfold byV
 simp [List.filter_append]
theorem sF (f:Nat→Nat) (x:Nat) (l:List Nat):byV f [f x] (x::l)=x::byV f [f x] l:=by
 unfold byV
 simp
theorem bq {v:Nat} (h:v≤4):List.range 5=List.range v++([v]++(List.range (4 - v)).map fun k=>v + 1 + k):=by
 rcases (by lia:v=0∨v=1∨v=2∨v=3∨v=4) with rfl | rfl | rfl | rfl | rfl <;> rfl
theorem kY {v:Nat}:v∉List.range v:=fun h=>Nat.lt_irrefl _ (List.mem_range.mp h)
theorem ig {v n:Nat}:v∉(List.range n).map fun k=>v + 1 + k:=fun h=>by
 obtain ⟨k,_,e⟩:=List.mem_map.mp h
 lia
theorem nO {f:Nat→Nat} {v c:Nat} {l:List Nat} (h:c∈byV f (List.range v) l):f c < v:=List.mem_range.mp (kX h).2
theorem kZ {f:Nat→Nat} {v n c:Nat} {l:List Nat} (h:c∈byV f ((List.range n).map fun k=>v + 1 + k) l):v < f c:=by
 obtain ⟨k,_,e⟩:=List.mem_map.mp (kX h).2
 lia
theorem lH {f:Nat→Nat} {v c:Nat} {l:List Nat} (h:c∈byV f [v] l):f c=v:=sgX (kX h).2
theorem pf {f:Nat→Nat} {x:Nat} (h:f x≤4) (l:List Nat) :
  eV (byV f (List.range 5) l) (bis (leI ((byV f (List.range 5) l).map fun c=>(f c:Int)) (f x:Int)) 0 (byV f (List.range 5) l).length) x=byV f (List.range 5) (l++[x]):=by
 rw [bq h]
 simp only [bG]
 rw [gT kY,gT ig,rn, ← List.append_assoc, ← List.append_assoc]
 have hb:bis (leI (((byV f (List.range (f x)) l++byV f [f x] l)++byV f ((List.range (4 - f x)).map fun k=>f x + 1 + k) l).map fun c=>(f c:Int)) (f x:Int)) 0 ((byV f (List.range (f x)) l++byV f [f x] l)++byV f ((List.range (4 - f x)).map fun k=>f x + 1 + k) l).length=(byV f (List.range (f x)) l++byV f [f x] l).length:=by
  rw [List.map_append]
  have:=GY (ns:=((byV f (List.range (f x)) l++byV f [f x] l).map fun c=>(f c:Int))++(byV f ((List.range (4 - f x)).map fun k=>f x + 1 + k) l).map fun c=>(f c:Int)) (x:=(f x:Int)) rfl (fun a ha=>by
   obtain ⟨c,hc⟩:=bI ha
   rcases apX hc with hc | hc
   ·have:=nO hc;lia
   ·have:=lH hc;lia) (fun b hb=>by
   obtain ⟨c,hc⟩:=bI hb
   have:=kZ hc;lia)
  rw [List.length_map] at this
  simpa using this
 rw [hb,rm]
 simp
theorem Bk {f:Nat→Nat} {x:Nat} (h:f x≤4) (l:List Nat) :
  eV (byV f (List.range 5) l) (bis (ltI ((byV f (List.range 5) l).map fun c=>(f c:Int)) (f x:Int)) 0 (byV f (List.range 5) l).length) x=byV f (List.range 5) (x::l):=by
 rw [bq h]
 simp only [bG]
 rw [ie kY,ie ig,sF]
 have hb:bis (ltI ((byV f (List.range (f x)) l++(byV f [f x] l++byV f ((List.range (4 - f x)).map fun k=>f x + 1 + k) l)).map fun c=>(f c:Int)) (f x:Int)) 0 (byV f (List.range (f x)) l++(byV f [f x] l++byV f ((List.range (4 - f x)).map fun k=>f x + 1 + k) l)).length=(byV f (List.range (f x)) l).length:=by
  rw [List.map_append]
  have:=Bj (ns:=((byV f (List.range (f x)) l).map fun c=>(f c:Int))++(byV f [f x] l++byV f ((List.range (4 - f x)).map fun k=>f x + 1 + k) l).map fun c=>(f c:Int)) (x:=(f x:Int)) rfl (fun a ha=>by
   obtain ⟨c,hc⟩:=bI ha
   have:=nO hc;lia) (fun b hb=>by
   obtain ⟨c,hc⟩:=bI hb
   rcases apX hc with hc | hc
   ·have:=lH hc;lia
   ·have:=kZ hc;lia)
  rw [List.length_map] at this
  simpa using this
 rw [hb,rm]
 simp
end Mine
end
section
namespace Mine
noncomputable def aL (f:Nat→Nat):Nat→List Nat
 | 0=>[]
 | i + 1=>eV (aL f i) (bis (leI ((aL f i).map fun c=>(f c:Int)) (f (five.getD i 0))) 0 (aL f i).length) (five.getD i 0)
noncomputable def aO (f:Nat→Nat):Nat→List Int
 | 0=>[9,9,9,9,9,9]
 | i + 1=>eV (aO f i) (bis (ltI (aO f i) (f (five.getD i 0))) 6 (aO f i).length) (f (five.getD i 0):Int)
theorem bH (f:Nat→Nat):∀ i,(aL f i).length=i
 | 0=>rfl
 | i + 1=>by rw [aL,kW,bH f i]
theorem cF (f:Nat→Nat):∀ i,(aO f i).length=i + 6
 | 0=>rfl
 | i + 1=>by rw [aO,kW,cF f i]
noncomputable def ay (f:Nat→Nat):Nat→List Int×Nat
 | 0=>([],0)
 | t + 1=>if t=(ay f t).2 then ((ay f t).1++[(f ((aL f 5).getD t 0):Int)],bis (leI (aO f 5) (f ((aL f 5).getD t 0):Int)) (6 + t) 11 - 6) else ay f t
theorem gU (f:Nat→Nat):∀ t,(ay f t).1.length≤t:=by
 intro zz
 induction zz with
 | zero =>
  exact Nat.le_refl _
 | succ t ih =>
  have ih:=ih
  rw [ay]
  split
  ·simp only [List.length_append,List.length_singleton];lia
  ·lia
noncomputable def gV (f:Nat→Nat) (i j:Nat):List Nat:=((List.range i).flatMap fun z=>five.filter fun c=>f c==z)++(five.take j).filter fun c=>f c==i
theorem Bl (f:Nat→Nat) (i:Nat):gV f i 5=gV f (i + 1) 0:=by
 unfold gV
 rw [List.range_succ,List.flatMap_append,show five.take 5=five from rfl]
 simp
theorem sG (f:Nat→Nat) (i:Nat) {j c:Nat} (h:five[j]?=some c):gV f i (j + 1)=if f c=i then gV f i j++[c] else gV f i j:=by
 unfold gV
 rw [List.take_add_one,h,List.filter_append]
 by_cases e:f c=i
 ·rw [if_pos e]
  simp [e]
 ·rw [if_neg e]
  simp [e]
theorem mv (f:Nat→Nat):∀ i≤5,∀ c∈aL f i,c∈five:=by
 intro zz
 induction zz with
 | zero =>
  intro _ c h
  cases h
 | succ i ih =>
  intro hi c h
  rw [aL] at h
  rcases sE h with h | rfl
  ·exact ih (by lia) c h
  ·have:i < five.length:=hi
   rw [List.getD_eq_getElem?_getD,List.getElem?_eq_getElem this]
   exact List.getElem_mem _
noncomputable def rows:Nat→List (List Nat)
 | 0=>[[]]
 | n + 1=>(List.range 5).flatMap fun x=>(rows n).map (x::·)
theorem Bm:∀ {l:List Nat},(∀ x∈l,x≤4)→l∈rows l.length:=by
 intro zz
 induction zz with
 | nil =>
  intro _
  exact .head _
 | cons x r ih =>
  intro h
  rw [List.length_cons,rows,List.mem_flatMap]
  exact ⟨x,List.mem_range.mpr (Nat.lt_succ_of_le (h x (.head _))),List.mem_map.mpr ⟨r,ih fun y hy=>h y (.tail _ hy),rfl⟩⟩
theorem fj {i:Nat} (h:i < 5):five.getD i 0∈five:=by
 have:i < five.length:=h
 rw [List.getD_eq_getElem?_getD,List.getElem?_eq_getElem this]
 exact List.getElem_mem _
theorem fk {i:Nat} (h:i < 5):five.take (i + 1)=five.take i++[five.getD i 0]:=by
 have:i < five.length:=h
 rw [List.take_add_one,List.getD_eq_getElem?_getD,List.getElem?_eq_getElem this]
 rfl
theorem ij {f:Nat→Nat} (hf:∀ c∈five,f c≤4):∀ i≤5,aL f i=byV f (List.range 5) (five.take i)
 | 0, _ => by
  unfold byV
  simp [aL]
 | i + 1, hi => by
  rw [aL,ij hf i (by lia),pf (hf _ (fj (by lia))),fk (by lia)]
theorem DO {f:Nat→Nat} (hf:∀ c∈five,f c≤4):aL f 5=gV f 5 0:=by
 rw [ij hf 5 (Nat.le_refl _)]
 unfold gV byV
 simp [five]
noncomputable def gW (f:Nat→Nat) (l:List Nat):List Nat:=(byV f (List.range 5) l).map f
theorem DP {f:Nat→Nat} {v:Nat} {l:List Nat}:(byV f [v] l).map f=List.replicate (byV f [v] l).length v:=by
 rw [List.eq_replicate_iff]
 refine ⟨List.length_map ..,fun b hb=>?_⟩
 obtain ⟨c,hc⟩:=bI hb
 exact lH hc
theorem DQ {f:Nat→Nat} {x:Nat} (h:f x≤4) (l:List Nat):gW f (l++[x])=(byV f (List.range (f x)) l).map f++f x::((byV f [f x] l++byV f ((List.range (4 - f x)).map fun k=>f x + 1 + k) l).map f):=by
 unfold gW
 rw [bq h]
 simp only [bG]
 rw [gT kY,gT ig,rn]
 simp only [List.map_append,DP,List.map_cons,List.map_nil]
 rw [show ∀ n,List.replicate n (f x)++[f x]=f x::List.replicate n (f x) from fun n=>by rw [← List.replicate_succ,List.replicate_succ']]
 simp
noncomputable def nines:List Int:=[9,9,9,9,9,9]
theorem DR {f:Nat→Nat} (hf:∀ c∈five,f c≤4):∀ i≤5,aO f i=nines++(gW f (five.take i)).map fun v:Nat=>(v:Int):=by
 intro zz
 induction zz with
 | zero =>
  intro _
  unfold gW byV
  simp [aO,nines]
 | succ i ih =>
  intro hi
  rw [aO,ih (by lia),fk (by lia),DQ (hf _ (fj (by lia)))]
  have hx:f (five.getD i 0)≤4:=hf _ (fj (by lia))
  generalize five.getD i 0=x at *
  have hv:gW f (five.take i)=(byV f (List.range (f x)) (five.take i)).map f++(byV f [f x] (five.take i)++byV f ((List.range (4 - f x)).map fun k=>f x + 1 + k) (five.take i)).map f:=by
   unfold gW
   rw [bq hx]
   simp only [bG,List.map_append]
  rw [hv]
  simp only [List.map_append (f:=fun v:Nat=>(v:Int))]
  have hb:=nN (C:=nines) (D:=[]) (ns:=nines++(((byV f (List.range (f x)) (five.take i)).map f).map (fun v:Nat=>(v:Int))++((byV f [f x] (five.take i)++byV f ((List.range (4 - f x)).map fun k=>f x + 1 + k) (five.take i)).map f).map fun v:Nat=>(v:Int))) (x:=(f x:Int)) (by rw [List.append_nil]) (fun a ha=>by
   simp only [List.mem_map] at ha
   obtain ⟨_,⟨c,hc,rfl⟩,rfl⟩:=ha
   have:=nO hc;lia) (fun b hb=>by
   simp only [List.mem_map] at hb
   obtain ⟨_,⟨c,hc,rfl⟩,rfl⟩:=hb
   rcases apX hc with hc | hc
   ·have:=lH hc;lia
   ·have:=kZ hc;lia) (hi:=(nines++(((byV f (List.range (f x)) (five.take i)).map f).map (fun v:Nat=>(v:Int))++((byV f [f x] (five.take i)++byV f ((List.range (4 - f x)).map fun k=>f x + 1 + k) (five.take i)).map f).map fun v:Nat=>(v:Int))).length) (by simp only [List.length_append];lia)
  rw [show nines.length=6 from rfl] at hb
  rw [hb, ← List.append_assoc]
  have:=rm (nines++((byV f (List.range (f x)) (five.take i)).map f).map (fun v:Nat=>(v:Int))) (((byV f [f x] (five.take i)++byV f ((List.range (4 - f x)).map fun k=>f x + 1 + k) (five.take i)).map f).map fun v:Nat=>(v:Int)) (f x:Int)
  rw [List.length_append,show nines.length=6 from rfl] at this
  rw [this]
  simp
noncomputable def stS (s:List Nat):Nat→List Int×Nat
 | 0=>([],0)
 | t + 1=>if t=(stS s t).2 then ((stS s t).1++[((s.getD t 0:Nat):Int)],bis (leI (nines++s.map fun v:Nat=>(v:Int)) ((s.getD t 0:Nat):Int)) (6 + t) 11 - 6) else stS s t
theorem GZ {f:Nat→Nat} (hf:∀ c∈five,f c≤4):(gW f five).length=5:=by
 unfold gW
 have:=ij hf 5 (Nat.le_refl _)
 rw [show five.take 5=five from rfl] at this
 rw [List.length_map, ← this,bH]
theorem Kr {f:Nat→Nat} (hf:∀ c∈five,f c≤4):∀ t≤5,ay f t=stS (gW f five) t:=by
 intro zz
 induction zz with
 | zero =>
  intro _
  exact rfl
 | succ t ih =>
  intro ht
  have h5:=ij hf 5 (Nat.le_refl _)
  rw [show five.take 5=five from rfl] at h5
  have hg:f ((aL f 5).getD t 0)=(gW f five).getD t 0:=by
   have hl:t < (aL f 5).length:=by rw [bH];lia
   have hl':t < (byV f (List.range 5) five).length:=by rw [← h5];exact hl
   unfold gW
   rw [List.getD_eq_getElem?_getD,List.getD_eq_getElem?_getD,List.getElem?_map,h5,List.getElem?_eq_getElem hl']
   rfl
  rw [ay,stS,ih (by lia),DR hf 5 (Nat.le_refl _),hg,show five.take 5=five from rfl]
noncomputable def bU (l:List Nat):List Int:=((List.range 5).filter fun v=>l.contains v).map fun (v:Nat)=>(v:Int)
noncomputable def upB:List Nat→Bool
 | []=>true
 | [_]=>true
 | x::y::r=>Nat.ble x y && upB (y::r)
theorem FN:∀ {l:List Nat},l.Pairwise (· ≤ ·)→upB l=true
 | [],_=>rfl
 | [_],_=>rfl
 | x :: y :: r, h => by
  rw [List.pairwise_cons] at h
  rw [upB,FN h.2,Bool.and_true]
  exact Nat.ble_eq.mpr (h.1 y (.head _))
theorem xG:((rows 5).all fun s => !upB s || (stS s 5).1==bU s)=true:=by decide +kernel
theorem tY {α:Type} {R:α→α→Prop}:∀ {l:List α},(∀ a∈l,∀ b∈l,R a b)→l.Pairwise R
 | [],_=>.nil
 | x::r,h=>.cons (fun b hb=>h x (.head _) b (.tail _ hb)) (tY fun a ha b hb=>h a (.tail _ ha) b (.tail _ hb))
theorem Jw (f:Nat→Nat) (l:List Nat):(gW f l).Pairwise (· ≤ ·):=by
 unfold gW byV
 rw [List.pairwise_map,List.pairwise_flatMap]
 refine ⟨fun z _=>?_,?_⟩
 ·refine tY fun a ha b hb=>?_
  have h1:=(List.mem_filter.mp ha).2
  have h2:=(List.mem_filter.mp hb).2
  rw [beq_iff_eq] at h1 h2
  lia
 ·refine List.Pairwise.imp (fun {a b} hab x hx y hy=>?_) (List.pairwise_lt_range (n:=5))
  have h1:=(List.mem_filter.mp hx).2
  have h2:=(List.mem_filter.mp hy).2
  rw [beq_iff_eq] at h1 h2
  lia
theorem Bn {f:Nat→Nat} (hf:∀ c∈five,f c≤4) (v:Nat):v∈gW f five↔v∈five.map f:=by
 unfold gW
 rw [List.mem_map,List.mem_map]
 refine ⟨fun ⟨c,hc,e⟩=>⟨c,(kX hc).1,e⟩,fun ⟨c,hc,e⟩=>⟨c,?_,e⟩⟩
 unfold byV
 exact List.mem_flatMap.mpr ⟨f c,List.mem_range.mpr (Nat.lt_succ_of_le (hf c hc)),List.mem_filter.mpr ⟨hc,by simp⟩⟩
theorem ik {f:Nat→Nat} (hf:∀ c∈five,f c≤4):(ay f 5).1=bU (five.map f):=by
 rw [Kr hf 5 (Nat.le_refl _)]
 have hm:gW f five∈rows 5:=by
  have:=Bm (l:=gW f five) fun x hx=>by
   obtain ⟨c,hc⟩:=bI ((Bn hf x).mp hx)
   exact hf c hc
  rwa [GZ hf] at this
 have h:=List.all_eq_true.mp xG _ hm
 rw [FN (Jw f five)] at h
 simp only [Bool.not_true,Bool.false_or,beq_iff_eq] at h
 rw [h]
 unfold bU
 congr 1
 refine List.filter_congr fun v _=>?_
 rw [Bool.eq_iff_iff,List.contains_iff_mem,List.contains_iff_mem]
 exact Bn hf v
end Mine
end
section
namespace Mine
def Jx (hv:Value) (H n:Nat):Prop:=hv=.none∧H=n∨∃ th,hv=.int H th
theorem fX {vs:List Value} {ns:List Int} (h:IntsAre vs ns) (k:Nat) (hk:k < ns.length):(PV.i (ns.getD k 0)).Is (vs.getD k .none):=by
 induction h generalizing k with
 | nil=>exact absurd hk (Nat.not_lt_zero _)
 | cons n t hr ih =>
  cases k with
  | zero=>exact ⟨t,rfl⟩
  | succ k=>exact ih k (Nat.lt_of_succ_lt_succ hk)
section
variable {w:World} {news:List (Addr×Obj)} {l:Addr} {vs:List Value} {n:Nat} {ns:List Int} {x:Int} {t tl₀:Tok} {lo H:Nat} {hv:Value} {pos:List Value} {kw:List (Str×Value)}
noncomputable abbrev bPm (l:Addr) (x:Int) (t:Tok) (c:Nat×Nat):PM:=[(Str.ofString "a",.v (.ref l)),(Str.ofString "x",.v (.int x t)),(Str.ofString "lo",.i c.1),(Str.ofString "hi",.i c.2)]
noncomputable abbrev bPk (l:Addr) (x:Int) (t:Tok) (kf:Addr) (c:Nat×Nat):PM:=[(Str.ofString "a",.v (.ref l)),(Str.ofString "x",.v (.int x t)),(Str.ofString "lo",.i c.1),(Str.ofString "hi",.i c.2),(Str.ofString "key",.v (.ref kf))]
theorem cQ {a b:Nat} (h:a < b):(a + b) / 2 < b:=(half a b).2 h
theorem lI {a b:Nat} (h:a < b):a≤(a + b) / 2:=(half a b).1 h
theorem halfUp {a b:Nat} (h:a < b):b - ((a + b) / 2 + 1) < b - a:=oS h (lI h)
theorem ro {a b:Nat} (h:a < b):(a + b) / 2 - a < b - a:=Nat.sub_lt_sub_right (lI h) (cQ h)
theorem wz {lo:Nat} (h:decide ((lo:Int) < 0)=true):False:=absurd (of_decide_eq_true h) (Int.not_lt.mpr (Int.natCast_nonneg lo))
theorem mw (f:Nat→Bool) {a b:Nat} (h:decide ((a:Int) < b)=false):bis f a b=a:=gL _ fun q=>absurd (Int.ofNat_lt.mpr q) (of_decide_eq_false h)
theorem wA {a b:Nat} (h:decide ((a:Int) < b)=true):a < b:=Int.ofNat_lt.mp (of_decide_eq_true h)
theorem DS {a b m:Nat} (h:a < b) (hm:b≤m):(Int.fdiv ((a:Int) + b) 2).toNat < m:=by rw [C1];exact Nat.lt_of_lt_of_le (cQ h) hm
theorem DT (a b:Nat):0≤Int.fdiv ((a:Int) + b) 2:=by rw [tM];exact Int.natCast_nonneg _
theorem FP {vs:List Value} {ns:List Int} (hi:IntsAre vs ns) {a b:Nat} (h:a < b) (h2:b≤ns.length):(PV.i (ns.getD ((a + b) / 2) 0)).Is (vs.getD (Int.fdiv ((a:Int) + b) 2).toNat .none):=by
 rw [C1];exact fX hi _ (Nat.lt_of_lt_of_le (cQ h) h2)
theorem rp (hl:(l,W.listOf vs.toArray n)∈news) (hi₀:IntsAre vs ns) (hlen:ns.length < 2^62) (hb1:lo≤H) (hb2:H≤ns.length) (hH:Jx hv H ns.length)
  (hbind:∀ s:Shared,(K w.params).In s.heap→BindsTo s (fnOf (.ofString "bisect_left") (.ofString "bisect_left") cY cZ c0 (.ref 66) (.ref 67) .none (.str (.ofString "cpy313.bisect") 289) none (.ref 73) .none) ⟨pos,kw⟩ [(Str.ofString "a",Value.ref l),(Str.ofString "x",Value.int x t),(Str.ofString "lo",Value.int lo tl₀),(Str.ofString "hi",hv),(Str.ofString "key",Value.none)]) :
  ah w (.ref 74) pos kw 2 news (fun v nx=>nx=news∧∃ t,v=.int (bis (ltI ns x) lo H) t):=by
 refine enter (D:=1) _ rfl rfl hbind rfl rfl fun C hC lN hcl Q hr hn hw=>?_
 have ok:=Cx.fmOk hC
 refine aq ok (And.intro (fun hb=>(wz hb).elim) fun _=>?_)
 refine meet ok (bPm l x t (lo,H)++[(Str.ofString "key",.v .none)]) news (fun Q' hQ=>?_) ?_
 ·rcases hH with ⟨rfl,rfl⟩ | ⟨th,rfl⟩
  ·exact aq ok (And.intro (fun hb=>cN ok hl hi₀.length hlen (hQ _ _ ⟨rfl,rfl,rfl,rfl,rfl,trivial⟩ fun _ h=>h)) nofun)
  ·exact aq ok (And.intro nofun (fun hb=>hQ _ _ ⟨rfl,rfl,rfl,rfl,rfl,trivial⟩ fun _ h=>h))
 refine aq ok (And.intro (fun _=>?_) nofun)
 refine kJ ok (bPm l x t) (fun _=>news) (fun c=>c.1≤c.2∧c.2≤ns.length∧bis (ltI ns x) c.1 c.2=bis (ltI ns x) lo H) (fun c=>c.2 - c.1) (lo,H) ⟨⟨hb1,hb2,rfl⟩,⟨rfl,rfl,rfl,rfl,trivial⟩,fun _ h=>h⟩ ?_
 rintro ⟨a,b⟩ ⟨h1,h2,h3⟩ Q' hQ
 refine And.intro (fun hb=>?_) (fun hb=>?_)
 ·have hlt:a < b:=wA hb
  refine And.intro ⟨by decide,by decide⟩ (aq ok (aG ok (.i (ns.getD ((a + b) / 2) 0)) hl rfl (DT a b) (hi₀.length▸DS hlt h2) (hi₀.length▸hlen) (FP hi₀ hlt h2) (And.intro (fun hc=>?_) (fun hc=>?_))))
  ·exact hQ _ _ ((a + b) / 2 + 1,b) (halfUp hlt) ⟨cQ hlt,h2,(qY _ hlt hc).symm.trans h3⟩ ⟨rfl,rfl,C0 a b,rfl,trivial⟩ fun _ h=>h
  ·exact hQ _ _ (a,(a + b) / 2) (ro hlt) ⟨lI hlt,Nat.le_trans (Nat.le_of_lt (cQ hlt)) h2,(qZ _ hlt hc).symm.trans h3⟩ ⟨rfl,rfl,rfl,tM a b,trivial⟩ fun _ h=>h
 ·refine hr _ _ _ ?_
  rintro y ⟨t,rfl⟩
  exact ⟨rfl,t,by rw [← h3,mw _ hb]⟩
theorem Bo {kf:Addr} {kn kq:Str} {kP:Arguments} {kB:PySem.Expr} {kS:Scope} {kcl:List (Str×Addr)} {kpm kct:Value} {kc:Addr} (hl:(l,W.listOf vs.toArray n)∈news) (hv₀:vs.length=ns.length) (hlen:ns.length < 2^62) (hb1:lo≤ns.length)
  (hkf:(kf,kla_obj kn kq kP kB kS kcl kpm kc kct)∈news) (hkey:∀ (i:Nat) (v:Value),vs[i]?=some v→ah w (.ref kf) [v] [] 2 news (fun v nx=>nx=news∧∃ t,v=.int (ns.getD i 0) t))
  (hbind:∀ s:Shared,(K w.params).In s.heap→BindsTo s (fnOf (.ofString "bisect_left") (.ofString "bisect_left") cY cZ c0 (.ref 66) (.ref 67) .none (.str (.ofString "cpy313.bisect") 289) none (.ref 73) .none) ⟨pos,kw⟩ [(Str.ofString "a",Value.ref l),(Str.ofString "x",Value.int x t),(Str.ofString "lo",Value.int lo tl₀),(Str.ofString "hi",Value.none),(Str.ofString "key",Value.ref kf)]) :
  ah w (.ref 74) pos kw 4 news (fun v nx=>nx=news∧∃ t,v=.int (bis (ltI ns x) lo ns.length) t):=by
 refine enter (D:=3) _ rfl rfl hbind rfl rfl fun C hC lN hcl Q hr hn hw=>?_
 have ok:=Cx.fmOk hC
 refine aq ok (And.intro (fun hb=>(wz hb).elim) fun _=>?_)
 refine aq ok (And.intro (fun hb=>cN ok hl hv₀ hlen ?_) nofun)
 refine aq ok (And.intro nofun (fun _=>?_))
 refine kJ ok (bPk l x t kf) (fun _=>news) (fun c=>c.1≤c.2∧c.2≤ns.length∧bis (ltI ns x) c.1 c.2=bis (ltI ns x) lo ns.length) (fun c=>c.2 - c.1) (lo,ns.length) ⟨⟨hb1,Nat.le_refl _,rfl⟩,⟨rfl,rfl,rfl,rfl,rfl,trivial⟩,fun _ h=>h⟩ ?_
 rintro ⟨a,b⟩ ⟨h1,h2,h3⟩ Q' hQ
 refine And.intro (fun hb=>?_) (fun hb=>?_)
 ·have hlt:a < b:=wA hb
  have hml:=Nat.lt_of_lt_of_le (cQ hlt) h2
  refine And.intro ⟨by decide,by decide⟩ (aq ok ?_)
  refine fV hC hkf rfl ?_
  refine aG ok (.v (vs.getD ((a + b) / 2) .none)) hl rfl (DT a b) (hv₀▸DS hlt h2) (hv₀▸hlen) (by rw [C1];rfl) ⟨hkf,dB fun z hz=>?_⟩
  obtain rfl:=hz
  refine hC.use0 hcl (by decide) (fun _ h=>h) (hkey ((a + b) / 2) _ (by rw [List.getD_eq_getElem?_getD,List.getElem?_eq_getElem (hv₀▸hml)];rfl)) ?_
  rintro v nx' ⟨rfl,t9,rfl⟩
  refine ⟨.i (ns.getD ((a + b) / 2) 0),⟨t9,rfl⟩,And.intro (fun hc=>?_) (fun hc=>?_)⟩
  ·exact hQ _ _ ((a + b) / 2 + 1,b) (halfUp hlt) ⟨cQ hlt,h2,(qY _ hlt hc).symm.trans h3⟩ ⟨rfl,rfl,C0 a b,rfl,rfl,trivial⟩ fun _ h=>h
  ·exact hQ _ _ (a,(a + b) / 2) (ro hlt) ⟨lI hlt,Nat.le_trans (Nat.le_of_lt (cQ hlt)) h2,(qZ _ hlt hc).symm.trans h3⟩ ⟨rfl,rfl,rfl,tM a b,rfl,trivial⟩ fun _ h=>h
 ·refine hr _ _ _ ?_
  rintro y ⟨t,rfl⟩
  exact ⟨rfl,t,by rw [← h3,mw _ hb]⟩
theorem Bp (hl:(l,W.listOf vs.toArray n)∈news) (hi₀:IntsAre vs ns) (hlen:ns.length < 2^62) (hb1:lo≤H) (hb2:H≤ns.length) (hH:Jx hv H ns.length)
  (hbind:∀ s:Shared,(K w.params).In s.heap→BindsTo s (fnOf (.ofString "bisect_right") (.ofString "bisect_right") cj ck cp (.ref 48) (.ref 49) .none (.str (.ofString "cpy313.bisect") 289) none (.ref 55) .none) ⟨pos,kw⟩ [(Str.ofString "a",Value.ref l),(Str.ofString "x",Value.int x t),(Str.ofString "lo",Value.int lo tl₀),(Str.ofString "hi",hv),(Str.ofString "key",Value.none)]) :
  ah w (.ref 56) pos kw 2 news (fun v nx=>nx=news∧∃ t,v=.int (bis (leI ns x) lo H) t):=by
 refine enter (D:=1) _ rfl rfl hbind rfl rfl fun C hC lN hcl Q hr hn hw=>?_
 have ok:=Cx.fmOk hC
 refine aq ok (And.intro (fun hb=>(wz hb).elim) fun _=>?_)
 refine meet ok (bPm l x t (lo,H)++[(Str.ofString "key",.v .none)]) news (fun Q' hQ=>?_) ?_
 ·rcases hH with ⟨rfl,rfl⟩ | ⟨th,rfl⟩
  ·exact aq ok (And.intro (fun hb=>cN ok hl hi₀.length hlen (hQ _ _ ⟨rfl,rfl,rfl,rfl,rfl,trivial⟩ fun _ h=>h)) nofun)
  ·exact aq ok (And.intro nofun (fun hb=>hQ _ _ ⟨rfl,rfl,rfl,rfl,rfl,trivial⟩ fun _ h=>h))
 refine aq ok (And.intro (fun _=>?_) nofun)
 refine kJ ok (bPm l x t) (fun _=>news) (fun c=>c.1≤c.2∧c.2≤ns.length∧bis (leI ns x) c.1 c.2=bis (leI ns x) lo H) (fun c=>c.2 - c.1) (lo,H) ⟨⟨hb1,hb2,rfl⟩,⟨rfl,rfl,rfl,rfl,trivial⟩,fun _ h=>h⟩ ?_
 rintro ⟨a,b⟩ ⟨h1,h2,h3⟩ Q' hQ
 refine And.intro (fun hb=>?_) (fun hb=>?_)
 ·have hlt:a < b:=wA hb
  refine And.intro ⟨by decide,by decide⟩ (aq ok (aG ok (.i (ns.getD ((a + b) / 2) 0)) hl rfl (DT a b) (hi₀.length▸DS hlt h2) (hi₀.length▸hlen) (FP hi₀ hlt h2) (And.intro (fun hc=>?_) (fun hc=>?_))))
  ·exact hQ _ _ (a,(a + b) / 2) (ro hlt) ⟨lI hlt,Nat.le_trans (Nat.le_of_lt (cQ hlt)) h2,(qZ _ hlt (by unfold leI;rw [hc];rfl)).symm.trans h3⟩ ⟨rfl,rfl,rfl,tM a b,trivial⟩ fun _ h=>h
  ·exact hQ _ _ ((a + b) / 2 + 1,b) (halfUp hlt) ⟨cQ hlt,h2,(qY _ hlt (by unfold leI;rw [hc];rfl)).symm.trans h3⟩ ⟨rfl,rfl,C0 a b,rfl,trivial⟩ fun _ h=>h
 ·refine hr _ _ _ ?_
  rintro y ⟨t,rfl⟩
  exact ⟨rfl,t,by rw [← h3,mw _ hb]⟩
theorem G0 {kf:Addr} {kn kq:Str} {kP:Arguments} {kB:PySem.Expr} {kS:Scope} {kcl:List (Str×Addr)} {kpm kct:Value} {kc:Addr} (hl:(l,W.listOf vs.toArray n)∈news) (hv₀:vs.length=ns.length) (hlen:ns.length < 2^62) (hb1:lo≤ns.length)
  (hkf:(kf,kla_obj kn kq kP kB kS kcl kpm kc kct)∈news) (hkey:∀ (i:Nat) (v:Value),vs[i]?=some v→ah w (.ref kf) [v] [] 2 news (fun v nx=>nx=news∧∃ t,v=.int (ns.getD i 0) t))
  (hbind:∀ s:Shared,(K w.params).In s.heap→BindsTo s (fnOf (.ofString "bisect_right") (.ofString "bisect_right") cj ck cp (.ref 48) (.ref 49) .none (.str (.ofString "cpy313.bisect") 289) none (.ref 55) .none) ⟨pos,kw⟩ [(Str.ofString "a",Value.ref l),(Str.ofString "x",Value.int x t),(Str.ofString "lo",Value.int lo tl₀),(Str.ofString "hi",Value.none),(Str.ofString "key",Value.ref kf)]) :
  ah w (.ref 56) pos kw 4 news (fun v nx=>nx=news∧∃ t,v=.int (bis (leI ns x) lo ns.length) t):=by
 refine enter (D:=3) _ rfl rfl hbind rfl rfl fun C hC lN hcl Q hr hn hw=>?_
 have ok:=Cx.fmOk hC
 refine aq ok (And.intro (fun hb=>(wz hb).elim) fun _=>?_)
 refine aq ok (And.intro (fun hb=>cN ok hl hv₀ hlen ?_) nofun)
 refine aq ok (And.intro nofun (fun _=>?_))
 refine kJ ok (bPk l x t kf) (fun _=>news) (fun c=>c.1≤c.2∧c.2≤ns.length∧bis (leI ns x) c.1 c.2=bis (leI ns x) lo ns.length) (fun c=>c.2 - c.1) (lo,ns.length) ⟨⟨hb1,Nat.le_refl _,rfl⟩,⟨rfl,rfl,rfl,rfl,rfl,trivial⟩,fun _ h=>h⟩ ?_
 rintro ⟨a,b⟩ ⟨h1,h2,h3⟩ Q' hQ
 refine And.intro (fun hb=>?_) (fun hb=>?_)
 ·have hlt:a < b:=wA hb
  have hml:=Nat.lt_of_lt_of_le (cQ hlt) h2
  refine And.intro ⟨by decide,by decide⟩ (aq ok ?_)
  refine fV hC hkf rfl ?_
  refine aG ok (.v (vs.getD ((a + b) / 2) .none)) hl rfl (DT a b) (hv₀▸DS hlt h2) (hv₀▸hlen) (by rw [C1];rfl) ⟨hkf,dB fun z hz=>?_⟩
  obtain rfl:=hz
  refine hC.use0 hcl (by decide) (fun _ h=>h) (hkey ((a + b) / 2) _ (by rw [List.getD_eq_getElem?_getD,List.getElem?_eq_getElem (hv₀▸hml)];rfl)) ?_
  rintro v nx' ⟨rfl,t9,rfl⟩
  refine ⟨.i (ns.getD ((a + b) / 2) 0),⟨t9,rfl⟩,And.intro (fun hc=>?_) (fun hc=>?_)⟩
  ·exact hQ _ _ (a,(a + b) / 2) (ro hlt) ⟨lI hlt,Nat.le_trans (Nat.le_of_lt (cQ hlt)) h2,(qZ _ hlt (by unfold leI;rw [hc];rfl)).symm.trans h3⟩ ⟨rfl,rfl,rfl,tM a b,rfl,trivial⟩ fun _ h=>h
  ·exact hQ _ _ ((a + b) / 2 + 1,b) (halfUp hlt) ⟨cQ hlt,h2,(qY _ hlt (by unfold leI;rw [hc];rfl)).symm.trans h3⟩ ⟨rfl,rfl,C0 a b,rfl,rfl,trivial⟩ fun _ h=>h
 ·refine hr _ _ _ ?_
  rintro y ⟨t,rfl⟩
  exact ⟨rfl,t,by rw [← h3,mw _ hb]⟩
end
end Mine
end
section
namespace Mine
structure KeyIs (w:World) (kf:Addr) (news:List (Addr×Obj)) (x:Value) (n:Int):Prop where
 spec:az w (.ref kf) [x] [] 2 news (fun t=>.int n t)
section
variable {w:World} {news news':List (Addr×Obj)} {l kf:Addr} {vs:List Value} {n:Nat} {ns:List Int} {x:Value} {kx:Int} {kn kq:Str} {kP:Arguments} {kB:PySem.Expr} {kS:Scope} {kcl:List (Str×Addr)} {kpm kct:Value} {kc:Addr}
theorem oB (hl:(l,W.listOf vs.toArray n)∈news) (hv₀:vs.length=ns.length) (hlen:ns.length≤1000)
  (hkf:(kf,kla_obj kn kq kP kB kS kcl kpm kc kct)∈news) (hkey:∀ (i:Nat) (v:Value),vs[i]?=some v→KeyIs w kf news v (ns.getD i 0)) (hkx:KeyIs w kf news x kx)
  (U:Chg l (W.listOf (kl_ins vs (bis (leI ns kx) 0 ns.length:Nat) x).toArray (n + 1)) news news') :
  ah w (.ref 47) [.ref l,x] [(Str.ofString "key",.ref kf)] 6 news (fun v nx=>v=.none∧nx=news'):=by
 refine enter (D:=5) [(Str.ofString "a",Value.ref l),(Str.ofString "x",x),(Str.ofString "lo",Value.int 0 291),(Str.ofString "hi",Value.none),(Str.ofString "key",Value.ref kf)] rfl rfl (fun s X=>kp_binds X (fun _=>rfl)) rfl rfl fun C hC lN hcl Q hr hn hw=>?_
 have ok:=Cx.fmOk hC
 refine meet ok ([(Str.ofString "a",.v (.ref l)),(Str.ofString "x",.v x),(Str.ofString "lo",.i (bis (leI ns kx) 0 ns.length:Nat))]) news (fun Q' hQ=>aq ok (And.intro nofun fun _=>?_)) ?_
 ·refine nJ ok ?_
  refine fV hC hkf rfl ⟨hkf,dB fun z hz=>?_⟩
  obtain rfl:=hz
  refine hC.use0 hcl (by decide) (fun _ h=>h) hkx.spec ?_
  rintro v nx' ⟨rfl,t9,rfl⟩
  refine ⟨.i kx,⟨t9,rfl⟩,?_⟩
  intro xs y hxs hy
  obtain rfl:=hy
  obtain ⟨x1,x2,x3,x4,h1,h2,h3,h4⟩:=AllIs.four hxs
  obtain rfl:=h1;obtain rfl:=h3;obtain rfl:=h4
  obtain ⟨t2,rfl⟩:=h2
  refine hC.use0 hcl (by decide) (fun _ h=>h) (G0 (lo:=0) hl hv₀ (by lia) (Nat.zero_le _) hkf (fun i v h=>(hkey i v h).spec) (fun s X=>kp_binds X (fun _=>rfl))) ?_
  rintro v nx' ⟨rfl,t8,rfl⟩
  exact ⟨.i _,⟨t8,rfl⟩,hQ _ _ ⟨rfl,rfl,rfl,trivial⟩ fun _ h=>h⟩
 refine aN ok (sm ok hl PySem.F.slot_list_insert PySem.F.type_list_insert (cwB ok ?_))
 have hb:=(a5 (leI ns kx) (Nat.zero_le ns.length)).2
 refine ic ok hl rfl (Nat.le_trans hb (by lia)) (by lia) fun y hy=>⟨news',hy▸U,hn _ _ ⟨rfl,rfl⟩⟩
theorem rq (hl:(l,W.listOf vs.toArray n)∈news) (hv₀:vs.length=ns.length) (hlen:ns.length≤1000)
  (hkf:(kf,kla_obj kn kq kP kB kS kcl kpm kc kct)∈news) (hkey:∀ (i:Nat) (v:Value),vs[i]?=some v→KeyIs w kf news v (ns.getD i 0)) (hkx:KeyIs w kf news x kx)
  (U:Chg l (W.listOf (kl_ins vs (bis (ltI ns kx) 0 ns.length:Nat) x).toArray (n + 1)) news news') :
  ah w (.ref 65) [.ref l,x] [(Str.ofString "key",.ref kf)] 6 news (fun v nx=>v=.none∧nx=news'):=by
 refine enter (D:=5) [(Str.ofString "a",Value.ref l),(Str.ofString "x",x),(Str.ofString "lo",Value.int 0 318),(Str.ofString "hi",Value.none),(Str.ofString "key",Value.ref kf)] rfl rfl (fun s X=>kp_binds X (fun _=>rfl)) rfl rfl fun C hC lN hcl Q hr hn hw=>?_
 have ok:=Cx.fmOk hC
 refine meet ok ([(Str.ofString "a",.v (.ref l)),(Str.ofString "x",.v x),(Str.ofString "lo",.i (bis (ltI ns kx) 0 ns.length:Nat))]) news (fun Q' hQ=>aq ok (And.intro nofun fun _=>?_)) ?_
 ·refine nJ ok ?_
  refine fV hC hkf rfl ⟨hkf,dB fun z hz=>?_⟩
  obtain rfl:=hz
  refine hC.use0 hcl (by decide) (fun _ h=>h) hkx.spec ?_
  rintro v nx' ⟨rfl,t9,rfl⟩
  refine ⟨.i kx,⟨t9,rfl⟩,?_⟩
  intro xs y hxs hy
  obtain rfl:=hy
  obtain ⟨x1,x2,x3,x4,h1,h2,h3,h4⟩:=AllIs.four hxs
  obtain rfl:=h1;obtain rfl:=h3;obtain rfl:=h4
  obtain ⟨t2,rfl⟩:=h2
  refine hC.use0 hcl (by decide) (fun _ h=>h) (Bo (lo:=0) hl hv₀ (by lia) (Nat.zero_le _) hkf (fun i v h=>(hkey i v h).spec) (fun s X=>kp_binds X (fun _=>rfl))) ?_
  rintro v nx' ⟨rfl,t8,rfl⟩
  exact ⟨.i _,⟨t8,rfl⟩,hQ _ _ ⟨rfl,rfl,rfl,trivial⟩ fun _ h=>h⟩
 refine aN ok (sm ok hl PySem.F.slot_list_insert PySem.F.type_list_insert (cwB ok ?_))
 have hb:=(a5 (ltI ns kx) (Nat.zero_le ns.length)).2
 refine ic ok hl rfl (Nat.le_trans hb (by lia)) (by lia) fun y hy=>⟨news',hy▸U,hn _ _ ⟨rfl,rfl⟩⟩
end
section
variable {w:World} {news news':List (Addr×Obj)} {l:Addr} {vs:List Value} {n lo hi:Nat} {ns:List Int} {x:Int} {t tl₀ th₀:Tok}
theorem sH (hl:(l,W.listOf vs.toArray n)∈news) (hi₀:IntsAre vs ns) (hlen:ns.length≤1000) (hb1:lo≤ns.length)
  (U:Chg l (W.listOf (kl_ins vs (bis (ltI ns x) lo ns.length:Nat) (.int x t)).toArray (n + 1)) news news') :
  ah w (.ref 65) [.ref l,.int x t,.int lo tl₀] [] 4 news (fun v nx=>v=.none∧nx=news'):=by
 refine enter (D:=3) [(Str.ofString "a",Value.ref l),(Str.ofString "x",Value.int x t),(Str.ofString "lo",Value.int lo tl₀),(Str.ofString "hi",Value.none),(Str.ofString "key",Value.none)] rfl rfl (fun s X=>kp_binds X (fun _=>rfl)) rfl rfl fun C hC lN hcl Q hr hn hw=>?_
 have ok:=Cx.fmOk hC
 have hvl:=hi₀.length
 refine meet ok ([(Str.ofString "a",.v (.ref l)),(Str.ofString "x",.v (.int x t)),(Str.ofString "lo",.i (bis (ltI ns x) lo ns.length:Nat))]) news (fun Q' hQ=>aq ok (And.intro (fun _=>bc ok (A6 fun a b c d ha hb hc hd=>?_)) nofun)) ?_
 ·obtain rfl:=ha;obtain rfl:=hb;obtain rfl:=hc;obtain rfl:=hd
  refine hC.use0 hcl (by decide) (fun _ h=>h) (rp (H:=ns.length) hl hi₀ (by lia) hb1 (Nat.le_refl _) (.inl ⟨rfl,rfl⟩) (fun s X=>kp_binds X (fun _=>rfl))) ?_
  rintro v nx' ⟨rfl,t8,rfl⟩
  exact ⟨.i _,⟨t8,rfl⟩,hQ _ _ ⟨rfl,rfl,rfl,trivial⟩ fun _ h=>h⟩
 refine aN ok (sm ok hl PySem.F.slot_list_insert PySem.F.type_list_insert (cwB ok ?_))
 have hb:=(a5 (ltI ns x) hb1).2
 refine ic ok hl rfl (Nat.le_trans hb (by lia)) (by lia) fun y hy=>⟨news',hy▸U,hn _ _ ⟨rfl,rfl⟩⟩
theorem rr (hl:(l,W.listOf vs.toArray n)∈news) (hi₀:IntsAre vs ns) (hlen:ns.length≤1000) (hb1:lo≤hi) (hb2:hi≤ns.length)
  (U:Chg l (W.listOf (kl_ins vs (bis (leI ns x) lo hi:Nat) (.int x t)).toArray (n + 1)) news news') :
  ah w (.ref 47) [.ref l,.int x t,.int lo tl₀,.int hi th₀] [] 4 news (fun v nx=>v=.none∧nx=news'):=by
 refine enter (D:=3) [(Str.ofString "a",Value.ref l),(Str.ofString "x",Value.int x t),(Str.ofString "lo",Value.int lo tl₀),(Str.ofString "hi",Value.int hi th₀),(Str.ofString "key",Value.none)] rfl rfl (fun s X=>kp_binds X (fun _=>rfl)) rfl rfl fun C hC lN hcl Q hr hn hw=>?_
 have ok:=Cx.fmOk hC
 have hvl:=hi₀.length
 refine meet ok ([(Str.ofString "a",.v (.ref l)),(Str.ofString "x",.v (.int x t)),(Str.ofString "lo",.i (bis (leI ns x) lo hi:Nat))]) news (fun Q' hQ=>aq ok (And.intro (fun _=>bc ok (A6 fun a b c d ha hb hc hd=>?_)) nofun)) ?_
 ·obtain rfl:=ha;obtain rfl:=hb;obtain rfl:=hc;obtain rfl:=hd
  refine hC.use0 hcl (by decide) (fun _ h=>h) (Bp (H:=hi) hl hi₀ (by lia) hb1 hb2 (.inr ⟨_,rfl⟩) (fun s X=>kp_binds X (fun _=>rfl))) ?_
  rintro v nx' ⟨rfl,t8,rfl⟩
  exact ⟨.i _,⟨t8,rfl⟩,hQ _ _ ⟨rfl,rfl,rfl,trivial⟩ fun _ h=>h⟩
 refine aN ok (sm ok hl PySem.F.slot_list_insert PySem.F.type_list_insert (cwB ok ?_))
 have hb:=(a5 (leI ns x) hb1).2
 refine ic ok hl rfl (Nat.le_trans hb (by lia)) (by lia) fun y hy=>⟨news',hy▸U,hn _ _ ⟨rfl,rfl⟩⟩
end
end Mine
end
section
namespace Mine
theorem Bq {P:Params} {h:Heap} (X:(K P).In h):CodeHd h 358 356 :=
 ⟨z4 P,_,_,_,_,_,_,_,_,X 358 _ (by rfl),rfl,rfl,rfl,rfl,rfl,rfl,rfl,rfl,by decide⟩
theorem sI {P:Params} {h:Heap} (X:(K P).In h):CodeHd h 363 361 :=
 ⟨z6 P,_,_,_,_,_,_,_,_,X 363 _ (by rfl),rfl,rfl,rfl,rfl,rfl,rfl,rfl,rfl,by decide⟩
local macro_rules | `(tactic| k_ne) => `(tactic| first | (refine Nat.ne_of_gt ?_; (try dsimp only); omega) | (refine Nat.ne_of_lt ?_; (try dsimp only); omega))
local macro_rules | `(tactic| walk_at $k:str) => if ["subscriptTail", "subscriptTail Name Name ref str"].contains k.getString then `(tactic| refine cB ?_) else Lean.Macro.throwUnsupported
noncomputable def G3 (l c:Nat):Arguments:={ posonlyargs:=[],args:=[{ arg:=Str.ofString "it",annotation:=none,pos:={ line:=l,col:=c,endLine:=l,endCol:=c + 2 } }],vararg:=none,kwonlyargs:=[],kw_defaults:=[],kwarg:=none,defaults:=[] }
noncomputable abbrev Br:Scope:={ kind:=ScopeKind.function,names:=[(Str.ofString "it",NameKind.local),(Str.ofString "few",NameKind.free)],isGenerator:=false,isCoroutine:=false }
noncomputable abbrev Bs:PySem.Expr:=(Expr.Name (Str.ofString "few") { line:=294,col:=48,endLine:=294,endCol:=51 }).Subscript (Expr.Name (Str.ofString "it") { line:=294,col:=52,endLine:=294,endCol:=54 }) { line:=294,col:=48,endLine:=294,endCol:=55 }
theorem DU {w:World} {news:List (Addr×Obj)} {kf c' cA D:Addr} {oc o9 oD:Obj} {vs1:Array Value} {t1:Tok} {qual:Str} {pm ctv:Value} {kvs:List (Str×Value)} {c:Nat} {n:Int} {u t:Tok}
  (hkf:(kf,kla_obj (Str.ofString "<lambda>") qual (G3 294 44) Bs Br [(Str.ofString "few",cA)] pm c' ctv)∈news) (hc':(c',oc)∈news) (hdc:oc.data=.fields vs1) (hvc:vs1[1]?=some (.str qual t1)) (hcA:(cA,o9)∈news) (ho9:o9.data=.cell (some (.ref D))) (hD:(D,oD)∈news) (hoD:oD.IsDictOf (PySem.strKind PySem.Challenge.rw_tc0096_01.prog w) kvs) (hat:valueAt kvs (one c)=some (.int n t)) :
  az w (.ref kf) [.str (one c) u] [] 2 news (fun t=>.int n t):=by
 unfold G3 Bs Br at hkf
 (try unfold az);(try unfold ah);(try unfold bp);k_fill;intro p loose mean mg mb dp un gd cn nm b1 b2 mr a ccd cl outer A₀ base h₀ L m s Q E B F X N T hd hu hret
 replace N:=News.add (News.add (News.add (News.add N hD) (.tail _ hcA)) (.tail _ (.tail _ hc'))) (.tail _ (.tail _ (.tail _ hkf)))
 refine wpAny_call ?_
 refine' kla_code ?k1 ?k2 ?k3 ?k4 ?k5 ?kA ?kF ?kK ?k6 ?k7 ?k8 ?k9 ?kB ?_ ?c2 ?c3 ?c4 ?c5
 case kA=>exact rfl
 case kF=>exact rfl
 case kK=>exact rfl
 case k1=>k_asm
 case k2=>k_asm
 case k3=>k_asm
 case k4=>exact N
 case k5=>k_asm
 case k6=>exact .head _
 case k7=>exact codeRec_news N (.tail _ (.head _)) hdc hvc
 case k8=>ktr_room
 case k9=>exact rfl
 case c5=>decide
 case kB=>exact locs rfl
 case c2=>exact rfl
 case c3=>exact rfl
 case c4=>exact rfl
 k_whole
 intro g' L' h' FG' F' N' B' X' T'
 (try dsimp only)
 (try k_fold)
 walk1
 (try dsimp only)
 rename News _ _ _ _=>N9
 refine' nameX_F ?N ?c ?m ?d ?_ ?a ?b
 case a=>rfl
 case b=>rfl
 case N=>exact N9
 case c=>rfl
 case m=>exact .tail _ (.tail _ (.head _))
 case d=>exact ho9
 k_whole
 k_steps
 unfold aF
 refine kda_item (knd:=PySem.strKind _ _) N9 (.tail _ (.tail _ (.tail _ (.head _)))) hoD (strKind_is _ _ _ _) hat ?_
 k_steps
 exact hret _ _ _ _ ⟨rfl,t,rfl⟩ (by k_asm) (News.of ‹News h₀ L h' (_::_)› fun p hp=>.tail _ (.tail _ (.tail _ (.tail _ hp))))
end Mine
end
section
namespace Mine
theorem item_at {cs:List Nat} {i:Nat} (hi:i < cs.length):Txt.item (Str.mk cs.toArray) (i:Int)=one (cs.getD i 0):=by
 unfold Txt.item Txt.charAt
 have e1:seqIndex? (i:Int) (Str.mk cs.toArray).length=some i:=by
  show seqIndex? (i:Int) cs.length=some i
  unfold seqIndex?
  simp only [if_neg (Int.not_lt.mpr (Int.natCast_nonneg i)),decide_eq_true (Int.natCast_nonneg i),decide_eq_true (Int.ofNat_lt.mpr hi),Bool.and_self,if_true];rfl
 rw [e1]
 simp [one,hi,List.getD]
theorem Bu:(five.all fun c=>decide (PySem.Builtin.Str.occurrences (Str.ofString "ahkmp") (one c) 0 (Str.ofString "ahkmp").length 1=[five.idxOf c]))=true:=by kernel_rfl
theorem wB {c:Nat} (h:c∈five):PySem.Builtin.Str.occurrences (Str.ofString "ahkmp") (one c) 0 (Str.ofString "ahkmp").length 1=[five.idxOf c]:=of_decide_eq_true (List.all_eq_true.mp Bu c h)
theorem rt {n:Nat} (h:n≤5):Builtin.Range.small 0 (n:Int) 1=true∧Builtin.Range.rangeSize 0 (n:Int) 1=(n:Int):=by
 rcases (by lia:n=0∨n=1∨n=2∨n=3∨n=4∨n=5) with rfl | rfl | rfl | rfl | rfl | rfl <;> exact ⟨rfl,rfl⟩
noncomputable def bit (x:Int) (k:Nat):Int:=PySem.Builtin.bitAnd (x.fdiv (2 ^ k)) 1
noncomputable def et (up:List Int) (low high one:Nat):Int:=if one=low∨bit (up.getD one 0) low≠0 then PySem.Builtin.bitOr (PySem.Builtin.bitOr (up.getD one 0) (1 * 2 ^ high)) (up.getD high 0) else up.getD one 0
noncomputable def bP (up:List Int) (low high:Nat):List Int:=if low≠high∧bit (up.getD high 0) low=0 then (List.range 5).map (et up low high) else up
noncomputable def aw (cs:List Nat):Nat→List Int
 | 0=>[0,0,0,0,0]
 | k + 1=>bP (aw cs k) (five.idxOf (cs.getD (2 * k) 0)) (five.idxOf (cs.getD (2 * k + 1) 0))
theorem ew (cs:List Nat):∀ k,(aw cs k).length=5:=by
 intro zz
 induction zz with
 | zero =>
  exact rfl
 | succ k ih =>
  unfold aw bP
  split
  ·simp
  ·exact ih
theorem ints_snoc {ys:List Value} {g:Nat→Int} {j:Nat} {a:Int} {t:Tok} (h:IntsAre ys ((List.range j).map g)) (e:a=g j):IntsAre (ys++[Value.int a t]) ((List.range (j + 1)).map g):=by
 rw [List.range_succ,List.map_append]
 subst e
 exact IntsAre.append h (.cons _ _ .nil)

theorem sJ {F:Fm} {pm:PM} {nx:Led} (ok:F.Ok) {a b:PV} {x y:Str} {k:Nat} {Q:KV} (ha:asS a=some x) (hb:asS b=some y) (hk:PySem.Builtin.Str.occurrences x y 0 x.length 1=[k]) (h:Q (.i (k:Int)) pm nx):aI F (.builtin "str.index") [a,b] pm nx Q:=by
 refine call2 fun u v hu hv s P hR hP=>?_
 obtain ⟨t,rfl⟩:=aJ ha hu
 obtain ⟨t2,rfl⟩:=aJ hb hv
 exact SC.index hk (hP _ _ _ _ _ h ⟨_,rfl⟩ (ok.toks _ hR))
theorem wC {F:Fm} {pm:PM} {nx:Led} (ok:F.Ok) {a i:Expr} {po pi:PV} {cs:List Nat} {k:Int} {j:Nat} {Q:KV} (hz:asS po=some (Str.mk cs.toArray)) (hi:asI pi=some k) (hk:k=(j:Int)) (hj:j < cs.length) (hl:cs.length≤1000) (h:Q (.s (one (cs.getD j 0))) pm nx) (hn:bO i=true:=by rfl):ow F a i po pi pm nx Q:=by
 subst hk
 have e:(Str.mk cs.toArray).length=cs.length:=by simp [Str.length]
 exact dU ok hz hi (by lia) (by rw [e];lia) (by rw [e];exact hl) (item_at hj) h hn
theorem AllIs.ints:∀ {ns:List Int} {xs:List Value},AllIs (ns.map .i) xs→IntsAre xs ns:=by
 intro zz
 induction zz with
 | nil =>
  intro _ h
  cases h;exact .nil
 | cons n ns ih =>
  intro _ h
  cases h with | cons h1 h2=>obtain ⟨t,rfl⟩:=h1;exact .cons _ _ (ih h2)
theorem tZ {w:World} {news:List (Addr×Obj)} {cs:List Nat} {n:Nat} {t t':Tok} (hcs:cs.length=10) (h5:∀ c∈cs,c∈five) (hn:n≤5) :
  ah w (.ref 347) [.str (Str.mk cs.toArray) t,.int (n:Int) t'] [] 5 news (fun v nx=>∃ (D:Addr) (vs:List Value) (k:Nat),v=.ref D∧nx=(D,W.listOf vs.toArray k)::news∧(∀ p∈news,p.1≠D)∧IntsAre vs (aw cs n)):=by
 refine enter (D:=4) [(Str.ofString "letters",.str (Str.mk cs.toArray) t),(Str.ofString "count",.int (n:Int) t')] rfl rfl (fun s _=>BindsTo.of_eq rfl) rfl rfl fun C hC lN hcl Q hr hnn hw=>?_
 have ok:=Cx.fmOk hC
 refine bj ok (aD rfl) fun D0 x0 hx0 hD0=>?_
 refine iR hC ?_
 refine cO rfl (fun r t1 u1 v1 hr0=>?_) hC
 refine iS hC (fun c:Addr×List Value×Nat=>[(Str.ofString "letters",.v (.str (Str.mk cs.toArray) t)),(Str.ofString "up",.v (.ref c.1))]) (fun c=>(c.1,W.listOf c.2.1.toArray c.2.2)::news) (fun i c=>IntsAre c.2.1 (aw cs i)∧∀ p∈news,p.1≠c.1) (D0,x0,0) (.head _) (rt hn).1 (rt hn).2 ⟨⟨?_,fun p hp=>Nat.ne_of_lt (hD0 p hp)⟩,⟨rfl,rfl,trivial⟩,fun p hp=>.tail _ hp⟩ (fun i c its hi hP hoff Q1 hQ1 hR1=>?_) (fun c hP=>?_)
 ·exact AllIs.ints (ns:=[0,0,0,0,0]) hx0
 ·obtain ⟨D,vs,kk⟩:=c
  obtain ⟨hP,hD⟩:=hP
  refine ⟨.i i,its++(D,W.listOf vs.toArray kk)::news,fun t=>⟨t,by rw [Int.zero_add]⟩,fun _ h=>h,?_⟩
  have hm:(D,W.listOf vs.toArray kk)∈its++(D,W.listOf vs.toArray kk)::news:=apR (.head _)
  have r1:cs.getD (2 * i) 0∈five:=h5 _ (List.mem_of_getElem? (getD_at (by lia)))
  have r2:cs.getD (2 * i + 1) 0∈five:=h5 _ (List.mem_of_getElem? (getD_at (by lia)))
  refine mq hC rfl ⟨rfl,(aD rfl)⟩ ?_
  refine aN ok (sk rfl PySem.F.slot_str_index PySem.F.type_str_index (cwB ok ?_))
  refine And.intro (IntMulOk.of_left (by decide +kernel)) ?_
  refine wC ok rfl rfl (j:=2 * i) (by lia) (by lia) (by lia) ?_
  refine sJ ok rfl rfl (wB r1) ?_
  refine aN ok (sk rfl PySem.F.slot_str_index PySem.F.type_str_index (cwB ok ?_))
  refine And.intro (IntMulOk.of_left (by decide +kernel)) ?_
  refine wC ok rfl rfl (j:=2 * i + 1) (by lia) (by lia) (by lia) ?_
  refine sJ ok rfl rfl (wB r2) ?_
  refine ⟨rfl,?_⟩
  have hlo5:=List.idxOf_lt_length_of_mem r1
  have hhi5:=List.idxOf_lt_length_of_mem r2
  have e9:aw cs (i + 1)=bP (aw cs i) (five.idxOf (cs.getD (2 * i) 0)) (five.idxOf (cs.getD (2 * i + 1) 0)):=rfl
  have hl5:=ew cs i
  generalize five.idxOf (cs.getD (2 * i) 0)=lo at hlo5 e9 ⊢
  generalize five.idxOf (cs.getD (2 * i + 1) 0)=hi at hhi5 e9 ⊢
  generalize aw cs i=up at hP hl5 e9
  replace hP:IntsAre vs up:=hP
  replace hlo5:lo < 5:=hlo5
  replace hhi5:hi < 5:=hhi5
  have hv5:vs.length=5:=hP.length.trans hl5
  have hin:∀ k:Nat,k < 5→(PV.i (up.getD k 0)).Is (vs.getD (k:Int).toNat .none):=fun k hk=>fX hP k (hl5▸hk)
  have same:∀ pm,¬ (lo≠hi∧bit (up.getD hi 0) lo=0)→Sub [(Str.ofString "letters",.v (.str (Str.mk cs.toArray) t)),(Str.ofString "up",.v (.ref D))] pm→Q1 .next pm (its++(D,W.listOf vs.toArray kk)::news):=fun pm h hs=>hQ1 _ _ (D,vs,kk) ⟨by rw [e9,bP,if_neg h];exact hP,hD⟩ hs (fun _ h=>h) hoff
  refine aq ok ?_
  refine And.intro (fun h1=>?_) (fun h1=>And.intro nofun fun _=>same _ (fun h=>h.1 (Int.ofNat_inj.mp (by simpa using h1))) ⟨rfl,rfl,trivial⟩)
  refine aG ok (.i (up.getD hi 0)) hm rfl (Int.natCast_nonneg _) (by rw [hv5];exact hhi5) (by rw [hv5];decide) (hin hi hhi5) ?_
  refine And.intro (Int.natCast_nonneg _) ?_
  refine And.intro (fun h2=>And.intro (fun _=>?_) nofun) (fun h2=>And.intro nofun fun _=>same _ (fun h=>ne_of_beq_false h2 h.2) ⟨rfl,rfl,trivial⟩)
  have e8:aw cs (i + 1)=(List.range 5).map (et up lo hi):=by
   rw [e9,bP,if_pos ⟨fun e=>by subst e;simp at h1,eq_of_beq h2⟩]
  refine A1 hC rfl (bF ok (by rw [show (C.fm w S__law_masks).env=envX C.cn S__law_masks C.L C.a C.ccd (cellsFrom (C.L + 1) S__law_masks.names []) from hcl▸rfl];rfl) ?_)
  refine cO rfl (fun r2 t2 u2 v2 hr2=>?_) hC
  refine bu ok (oy:=none) [(Str.ofString "up",.v (.ref D)),(Str.ofString "low",.i lo),(Str.ofString "high",.i hi)] (fun j=>.i j) (fun _:Unit=>its++(D,W.listOf vs.toArray kk)::news) (fun j ys _=>IntsAre ys ((List.range j).map (et up lo hi))) () (fi ok (n:=5) (.head _) rfl rfl) ⟨⟨rfl,⟨_,fun _=>rfl,(congrArg (List.lookup _) hcl).trans rfl⟩,rfl,rfl⟩,⟨rfl,⟨_,fun _=>rfl,(congrArg (List.lookup _) hcl).trans rfl⟩,rfl,rfl⟩,⟨rfl,⟨_,fun _=>rfl,(congrArg (List.lookup _) hcl).trans rfl⟩,rfl,rfl⟩,trivial⟩ (fun j v ⟨t,e⟩=>⟨t,by rw [e,Int.zero_add]⟩) (fun j ys _ hj hys=>by rw [hys.length,List.length_map,List.length_range];lia) (fun _ _ _ _ _ h=>nomatch h) ⟨.nil,fun p hp=>.tail _ hp⟩ (fun j ys _ hj hys κ okE Q' Qn hQ' _=>?_) (fun ys _ E hys hE=>?_)
  ·have hj5:j < 5:=hj
   have fin:∀ a pm,a=et up lo hi j→Q' (.i a) pm (its++(D,W.listOf vs.toArray kk)::news):=fun a pm e=>hQ' _ _ _ () (fun y ⟨t,hy⟩=>hy▸ints_snoc hys e) (fun p hp=>hp) trivial
   refine ny okE ?_
   refine And.intro (fun k1=>And.intro (fun _=>?_) nofun) (fun k1=>?_)
   ·refine aG okE (.i (up.getD j 0)) hm rfl (Int.natCast_nonneg _) (by rw [hv5];exact hj5) (by rw [hv5];decide) (hin j hj5) ?_
    refine And.intro ⟨Int.natCast_nonneg _,by lia,by decide⟩ ?_
    refine aG okE (.i (up.getD hi 0)) hm rfl (Int.natCast_nonneg _) (by rw [hv5];exact hhi5) (by rw [hv5];decide) (hin hi hhi5) ?_
    exact fin _ _ (if_pos (.inl (Int.ofNat_inj.mp (eq_of_beq k1)))).symm
   ·refine aG okE (.i (up.getD j 0)) hm rfl (Int.natCast_nonneg _) (by rw [hv5];exact hj5) (by rw [hv5];decide) (hin j hj5) ?_
    refine And.intro (Int.natCast_nonneg _) ?_
    refine And.intro (fun k2=>And.intro (fun _=>?_) nofun) (fun k2=>And.intro nofun fun _=>?_)
    ·refine aG okE (.i (up.getD j 0)) hm rfl (Int.natCast_nonneg _) (by rw [hv5];exact hj5) (by rw [hv5];decide) (hin j hj5) ?_
     refine And.intro ⟨Int.natCast_nonneg _,by lia,by decide⟩ ?_
     refine aG okE (.i (up.getD hi 0)) hm rfl (Int.natCast_nonneg _) (by rw [hv5];exact hhi5) (by rw [hv5];decide) (hin hi hhi5) ?_
     exact fin _ _ (if_pos (.inr (bne_iff_ne.mp k2))).symm
    ·refine aG okE (.i (up.getD j 0)) hm rfl (Int.natCast_nonneg _) (by rw [hv5];exact hj5) (by rw [hv5];decide) (hin j hj5) ?_
     exact fin _ _ (if_neg (fun h=>h.elim (fun e=>ne_of_beq_false k1 (Int.ofNat_inj.mpr e)) fun e=>e (by simpa [bit] using k2))).symm
  ·have hE2:∀ p∈news,p.1≠E:=fun p hp=>hE p (apR (.tail _ hp))
   refine hQ1 _ _ (E,ys,ys.length) ⟨e8▸hys,hE2⟩ ⟨rfl,rfl,trivial⟩ (fun p hp=>?_) fun p hp q hq=>?_
   ·rcases apX hp with hp | hp
    ·exact .tail _ (apL hp)
    ·rcases cnX hp with rfl | hp
     ·exact .head _
     ·exact .tail _ (apR (.tail _ hp))
   ·rcases cnX hp with rfl | hp
    ·exact fun e=>hE q (apL hq) e.symm
    ·exact hoff p (.tail _ hp) q hq
 ·refine hr _ _ _ fun y hy=>?_
  exact ⟨c.1,c.2.1,c.2.2,hy,rfl,hP.2,hP.1⟩
end Mine
end
section
namespace Mine
noncomputable def Ks (f:Nat→Nat) (τ:Nat→Tok) (i:Nat):List (Str×Value):=(five.take i).map fun c=>(one c,Value.int (f c:Int) (τ c))
def lg (f:Nat→Nat) (i:Nat) (kvs:List (Str×Value)):Prop:=∃ τ,kvs=Ks f τ i
theorem Bv {f:Nat→Nat} {i c:Nat} {kvs:List (Str×Value)} {t:Tok} (h:lg f i kvs) (hc:five[i]?=some c):lg f (i + 1) (stored kvs (one c) (.int (f c:Int) t)):=by
 obtain ⟨τ,rfl⟩:=h
 refine ⟨fun z=>if z=c then t else τ z,?_⟩
 have hi:i < 5:=(List.getElem?_eq_some_iff.mp hc).1
 rcases (by lia:i=0∨i=1∨i=2∨i=3∨i=4) with rfl | rfl | rfl | rfl | rfl <;> cases hc <;> rfl
theorem nP {f:Nat→Nat} {kvs:List (Str×Value)} {c:Nat} (h:lg f 5 kvs) (hc:c∈five):∃ t,valueAt kvs (one c)=some (.int (f c:Int) t):=by
 obtain ⟨τ,rfl⟩:=h
 refine ⟨τ c,?_⟩
 have:c=97∨c=104∨c=107∨c=109∨c=112:=by simpa [five] using hc
 rcases this with rfl | rfl | rfl | rfl | rfl <;> rfl
theorem mx (l:List Value) {k:Nat} (h:k≤l.length) (y:Value):kl_ins l (k:Int) y=eV l k y:=by
 unfold kl_ins eV
 rw [if_neg (by lia),Int.toNat_natCast,Nat.min_eq_left h]
theorem sL:∀ {vs:List Value} {ns:List Int} (k:Nat) (a:Int) (t:Tok),IntsAre vs ns→IntsAre (eV vs k (.int a t)) (eV ns k a):=by
 intro vs ns k a t h
 induction k generalizing vs ns with
 | zero=>exact .cons a t h
 | succ k ih => cases h with
  | nil=>exact .cons a t .nil
  | cons n u r=>exact .cons n u (ih r)
theorem sM:∀ {vs:List Value} {ns:List Nat} (k:Nat) (a:Nat) (t:Tok),StrsAre vs (ns.map one)→StrsAre (eV vs k (.str (one a) t)) ((eV ns k a).map one):=by
 intro vs ns k a t h
 induction k generalizing vs ns with
 | zero=>exact .cons _ t h
 | succ k ih =>
  cases ns with
  | nil=>cases h;exact .cons _ t .nil
  | cons n r => cases h with
   | cons _ u hr=>exact .cons _ u (ih hr)
theorem lj:(Str.ofString "ahkmp").cps.toList=five:=by kernel_rfl
theorem DV {i c:Nat} (h:(Str.ofString "ahkmp").cps[i]?=some c):five[i]?=some c:=by
 rw [← lj,Array.getElem?_toList];exact h
theorem dM {i:Nat} {v:Value} (h:SignAt (Str.ofString "ahkmp") i v):(PV.s (one (five.getD i 0))).Is v:=by
 obtain ⟨c,u,hc,rfl⟩:=h
 refine ⟨u,?_⟩
 rw [List.getD_eq_getElem?_getD,DV hc];rfl
theorem xH:(Str.ofString "ahkmp").cps.size=5:=by kernel_rfl
theorem dN {G:Fm} {pm:PM} {nx:Led} (ok:G.Ok):oA G 5 (SignAt (Str.ofString "ahkmp")) [] (.s (Str.ofString "ahkmp")) pm nx:=xH▸nC ok rfl
def Kt (f:Nat→Nat) (i j:Nat) (ys:List Value):Prop:=i≤5∧j≤5∧ys.length≤5 * i + j∧StrsAre ys ((gV f i j).map one)
theorem ph {c:Nat} (h:c∈five):c < 1114112:=by
 have:(five.all fun c=>decide (c < 1114112))=true:=by kernel_rfl
 simpa using List.all_eq_true.mp this c h
theorem dj {i:Nat} (h:i < 5):five[i]?=some (five.getD i 0)∧five.getD i 0∈five:=by
 have h':i < five.length:=h
 have e:five[i]?=some (five.getD i 0):=by rw [List.getD_eq_getElem?_getD,List.getElem?_eq_getElem h'];rfl
 exact ⟨e,List.mem_of_getElem? e⟩
noncomputable abbrev gh:Str:=(Str.ofString "_law_steps"++Str.ofString ".<locals>.")++Str.ofString "<lambda>"
theorem DW {vs:List Value} {cs:List Nat} (h:StrsAre vs (cs.map one)) {k:Nat} (hk:k < cs.length):(PV.s (one (cs.getD k 0))).Is (vs.getD k .none):=by
 have hv:vs.length=cs.length:=by rw [h.length,List.length_map]
 obtain ⟨c,t,h1,h2⟩:=gS h k _ (List.getElem?_eq_getElem (hv▸hk))
 exact ⟨t,by rw [List.getD_eq_getElem?_getD,List.getElem?_eq_getElem (hv▸hk),h2,List.getD_eq_getElem?_getD,h1];rfl⟩
structure StS where
 vo:List Value
 vc:List Value
 no:Nat
 nc:Nat
 ps:Array Value
 co:Led
noncomputable def stL (lO lC lS E:Addr) (oE:Obj) (base:Led) (c:StS):Led:=(lO,W.listOf c.vo.toArray c.no)::(lC,W.listOf c.vc.toArray c.nc)::(lS,W.listOf #[] 0)::(E,oE)::(356,tabObj c.ps)::(c.co++base)
inductive lJ (w:World) (f:Nat→Nat) (codes base:Led):Value→Led→Prop
 | mk (T D lS:Addr) (oD:Obj) (kvs:List (Str×Value)) (vt:List Value) (nt:Nat) (ps':Array Value) (codes':Led):Tab gh ps'.toList codes'→lg f 5 kvs→oD.IsDictOf (PySem.strKind PySem.Challenge.rw_tc0096_01.prog w) kvs→IntsAre vt (ay f 5).1→(∀ p∈codes',p.1≠356∧(p∈codes∨∀ q∈base,q.1 < p.1)) →
   (∀ q∈base,q.1≠T∧q.1≠D∧q.1≠lS)→D≠356∧lS≠356→lJ w f codes base (.ref T) ((T,({ cls:=.type "tuple",data:=.seq #[.ref D,.ref lS] }:Obj))::(D,oD)::(lS,W.listOf vt.toArray nt)::(356,tabObj ps')::(codes'++base))
theorem ua {w:World} {base codes:Led} {ps:Array Value} {x d l:Addr} {t0:Tok} {f:Nat→Nat} (hT:Tab gh ps.toList codes) (hco:∀ p∈codes,p.1≠356) (hb:∀ p∈base,p.1≠356) (hx:(x,instObj 317 d)∈base) (hd0:(d,bx w l t0)∈base) (hf:∀ c∈five,f c≤4)
  (hget:∀ (news':Led) (c:Nat) (t:Tok),c∈five→(∀ p∈base,p∈news')→ah w (.ref 256) [.ref x,.str (one c) t] [] 5 news' (fun v nx=>∃ (D:Addr) (ys:List Value),v=.ref D∧nx=(D,W.listOf ys.toArray ys.length)::news'∧(∀ p∈news',p.1≠D)∧ys.length=f c)) :
  ah w (.ref 359) [.ref x] [] 12 ((356,tabObj ps)::(codes++base)) (lJ w f codes base):=by
 refine enterQ (D:=11) [(Str.ofString "table",Value.ref x)] rfl rfl (fun s _=>BindsTo.of_eq rfl) rfl rfl fun C hC lN hcl hcc Q hr hn hw=>?_
 have ok:=Cx.fmOk hC
 have henv:(C.fm w S__law_steps).env=envX C.cn S__law_steps C.L C.a C.ccd (cellsFrom (C.L + 1) S__law_steps.names []):=hcl▸rfl
 refine mq hC rfl ⟨rfl,(aD rfl)⟩ ?_
 refine A9 ok (by rw [henv];rfl) ?_
 refine tV ok [(Str.ofString "table",.v (.ref x))] (fun i=>.s (one (five.getD i 0))) (fun _:Unit=>(356,tabObj ps)::(codes++base)) (fun i kvs _=>lg f i kvs) () (dN ok) ⟨⟨rfl,⟨_,fun _=>rfl,(congrArg (List.lookup _) hcl).trans rfl⟩,rfl,rfl⟩,trivial⟩ (fun i v hv=>dM hv) (aD rfl) ⟨⟨fun _=>0,rfl⟩,fun _ h=>h⟩ (fun i kvs _ hi hk κ okG Qy hQy=>?_) (fun kvs _ E oE hk hoE hE=>?_)
 ·show fS _ _ (.s (one (five.getD i 0))) _ ((356,tabObj ps)::(codes++base)) _
  obtain ⟨hc,hc5⟩:=dj hi
  generalize five.getD i 0=c at hc hc5 ⊢
  have sub:∀ p∈base,p∈(356,tabObj ps)::(codes++base):=fun p hp=>.tail _ (apR hp)
  refine aN okG (gP okG (sub _ hx) (sub _ hd0) (cwF okG (call2 fun a b ha hb'=>?_)))
  obtain rfl:=ha
  obtain ⟨u,rfl⟩:=hb'
  refine okG.use hC (by decide) fun os ap=>⟨_,_,fun _ h=>h,hget _ c u hc5 fun p hp=>apR (sub p hp),?_⟩
  rintro v nx' ⟨D9,ys,rfl,rfl,hD9,hys⟩
  refine ⟨.v (.ref D9),(D9,W.listOf ys.toArray ys.length)::(356,tabObj ps)::(codes++base),rfl,fun p hp=>?_,fun p hp q hq=>?_,?_⟩
  ·rcases apX hp with hp | hp
   ·exact .tail _ (apL hp)
   ·rcases cnX hp with rfl | hp
    ·exact .head _
    ·exact .tail _ (apR hp)
  ·rcases cnX hq with rfl | hq
   ·exact hD9 p (apL hp)
   ·exact ap p hp q hq
  ·refine cN okG (.head _) hys (by have:=hf c hc5;lia) ?_
   exact hQy _ _ _ _ () (fun y ⟨t,hy⟩=>hy▸Bv hk hc) fun p hp=>.tail _ hp
 replace hk:lg f 5 kvs:=hk
 refine bj ok (aD rfl) fun lO x1 hx1 hlO=>?_
 cases hx1
 refine bj ok (aD rfl) fun l9 x9 hx9 hl9=>?_
 refine GP ok (ns:=[9]) (.head _) (AllIs.ints (ns:=[9]) hx9) rfl (by decide) (by decide) (by rw [hx9.length];decide) fun lC vc0 hvc0 hlC=>?_
 refine bj ok (aD rfl) fun lS x3 hx3 hlS=>?_
 cases hx3
 refine ⟨rfl,?_⟩
 have hDb:∀ p∈(356,tabObj ps)::(codes++base),p.1≠E:=hE
 have hOb:∀ p∈(E,oE)::(356,tabObj ps)::(codes++base),p.1 < lO:=hlO
 have hOC:lO < lC:=hlC (lO,_) (.tail _ (.head _))
 have hCS:lC < lS:=hlS (lC,_) (.head _)
 have hBC:∀ p∈(E,oE)::(356,tabObj ps)::(codes++base),p.1 < lC:=fun p hp=>Nat.lt_trans (hOb p hp) hOC
 have hBS:∀ p∈(E,oE)::(356,tabObj ps)::(codes++base),p.1 < lS:=fun p hp=>Nat.lt_trans (hBC p hp) hCS
 have hOS:=Nat.lt_trans hOC hCS
 have CH:=Bq hC.X
 have hcF:(C.fm w S__law_steps).cell (Str.ofString "few")=some (C.L + 1 + 1):=(congrArg (List.lookup _) hcl).trans rfl
 refine iR hC ?_
 refine AQ hC (fun c:StS=>[(Str.ofString "order",.v (.ref lO)),(Str.ofString "counts",.v (.ref lC)),(Str.ofString "steps",.v (.ref lS)),(Str.ofString "spot",.i 0),(Str.ofString "few",.v (.ref E))]) (stL lO lC lS E oE base)
  (fun i c=>(StrsAre c.vo ((aL f i).map one)∧IntsAre c.vc (aO f i))∧Tab gh c.ps.toList c.co∧∀ p∈c.co,(p.1≠356∧p.1≠lO∧p.1≠lC∧p.1≠lS∧p.1≠E)∧(p∈codes∨∀ q∈base,q.1 < p.1)) ⟨[],vc0,0,0,ps,codes⟩ rfl (n:=5) rfl ⟨⟨⟨.nil,hvc0⟩,hT,fun p hp=>?_⟩,⟨rfl,rfl,rfl,rfl,rfl,trivial⟩,?_⟩ (fun i c its hi hP hoff Q1 hQ1 hR1=>?_) (fun c hP=>?_)
 ·have m1:p∈(356,tabObj ps)::(codes++base):=.tail _ (apL hp)
  exact ⟨⟨hco p hp,Nat.ne_of_lt (hOb p (.tail _ m1)),Nat.ne_of_lt (hBC p (.tail _ m1)),Nat.ne_of_lt (hBS p (.tail _ m1)),hDb p m1⟩,.inl hp⟩
 ·walk_at "k_subs"
 ·obtain ⟨⟨ho,hcn⟩,hTab,hcd⟩:=hP
  obtain ⟨hc,hc5⟩:=dj hi
  have hg:(Str.ofString "ahkmp").cps.toList.getD i 0=five.getD i 0:=congrArg (fun l:List Nat=>l.getD i 0) lj
  rw [hg]
  generalize hgc:five.getD i 0=z at hc hc5
  refine ⟨.s (one z),its++stL lO lC lS E oE base c,fun t=>⟨t,rfl⟩,fun _ h=>h,?_⟩
  have hP1:(356:Nat) < lO:=hOb (356,tabObj ps) (.tail _ (.head _))
  have mI:∀ p∈stL lO lC lS E oE base c,p∈its++stL lO lC lS E oE base c:=fun p hp=>apR hp
  have hX:∀ p∈its++(lO,W.listOf c.vo.toArray c.no)::(lC,W.listOf c.vc.toArray c.nc)::(lS,W.listOf #[] 0)::(E,oE)::base,p∈its++stL lO lC lS E oE base c∧p.1≠356:=by
   have sb:∀ p∈(lO,W.listOf c.vo.toArray c.no)::(lC,W.listOf c.vc.toArray c.nc)::(lS,W.listOf #[] 0)::(E,oE)::base,p∈stL lO lC lS E oE base c:=by
    unfold stL
    walk_at "k_subs"
   refine fun p hp=>(apX hp).elim (fun hp=>⟨apL hp,Ne.symm (hoff (356,tabObj c.ps) (.tail _ (.tail _ (.tail _ (.tail _ (.head _))))) p hp)⟩) fun hp=>⟨mI p (sb p hp),?_⟩
   rcases cnX hp with rfl | hp
   ·exact Nat.ne_of_gt hP1
   ·rcases cnX hp with rfl | hp
    ·exact Nat.ne_of_gt (Nat.lt_trans hP1 hOC)
    ·rcases cnX hp with rfl | hp
     ·exact Nat.ne_of_gt (Nat.lt_trans hP1 hOS)
     ·rcases cnX hp with rfl | hp
      ·exact Ne.symm (hDb _ (.head _))
      ·exact hb p hp
  refine nJ ok ?_
  refine A7 hC (codes:=c.co) (X:=its++(lO,W.listOf c.vo.toArray c.no)::(lC,W.listOf c.vc.toArray c.nc)::(lS,W.listOf #[] 0)::(E,oE)::base) hcc.2 CH rfl (by rw [henv];rfl) (by rw [henv,hcc.1]) hTab (mI _ (.tail _ (.tail _ (.tail _ (.tail _ (.head _)))))) (fun p hp=>⟨mI p (.tail _ (.tail _ (.tail _ (.tail _ (.tail _ (apL hp)))))),(hcd p hp).1.1⟩) hX fun kf c' oc vs1 t1 pmv ctv ps2 co2 hTab2 hc' hdc hvc hlf hcd2=>?_
  intro xs y hxs hy
  obtain rfl:=hy
  obtain ⟨x1,x2,h1,h2⟩:=AllIs.two hxs
  obtain rfl:=h1
  obtain ⟨u,rfl⟩:=h2
  have hlen:c.vo.length=i:=by rw [ho.length,List.length_map,bH]
  have hcl5:c.vc.length=i + 6:=by rw [hcn.length,cF]
  have hkat:∀ c∈five,∃ t,valueAt kvs (one c)=some (.int (f c:Int) t):=fun c hc=>nP hk hc
  have ho':StrsAre (kl_ins c.vo (bis (leI ((aL f i).map fun c=>(f c:Int)) (f z:Int)) 0 ((aL f i).map fun c=>(f c:Int)).length:Nat) (.str (one z) u)) ((aL f (i + 1)).map one):=by
   have hle:=(a5 (leI ((aL f i).map fun c=>(f c:Int)) (f z:Int)) (Nat.zero_le ((aL f i).map fun c=>(f c:Int)).length)).2
   rw [mx _ (by rw [hlen];rw [List.length_map,bH] at hle;rw [List.length_map,bH];exact hle),aL,hgc,List.length_map]
   exact sM _ _ _ ho
  generalize hvo2:kl_ins c.vo (bis (leI ((aL f i).map fun c=>(f c:Int)) (f z:Int)) 0 ((aL f i).map fun c=>(f c:Int)).length:Nat) (.str (one z) u)=vo2 at ho'
  have hcd3:∀ p∈co2,(p.1≠356∧p.1≠lO∧p.1≠lC∧p.1≠lS∧p.1≠E)∧(p∈codes∨∀ q∈base,q.1 < p.1):=fun p hp=>by
   obtain ⟨h1,h2 | h2⟩:=hcd2 p hp
   ·exact hcd p h2
   ·have h3:=fun z hz=>h2 z (mI z hz)
    exact ⟨⟨h1,Nat.ne_of_gt (h3 _ (.head _)),Nat.ne_of_gt (h3 _ (.tail _ (.head _))),Nat.ne_of_gt (h3 _ (.tail _ (.tail _ (.head _)))),Nat.ne_of_gt (h3 _ (.tail _ (.tail _ (.tail _ (.head _)))))⟩,.inr fun q hq=>h3 q (.tail _ (.tail _ (.tail _ (.tail _ (.tail _ (apR hq))))))⟩
  have hoff2:∀ p∈co2,∀ q∈its,p.1≠q.1:=fun p hp q hq=>by
   obtain ⟨h1,h2 | h2⟩:=hcd2 p hp
   ·exact hoff p (.tail _ (.tail _ (.tail _ (.tail _ (.tail _ (apL h2)))))) q hq
   ·exact Nat.ne_of_gt (h2 q (apL hq))
  have hbO:∀ p∈base,p.1 < lO:=fun p hp=>hOb p (.tail _ (.tail _ (apR hp)))
  have chg:∀ l (o':Obj) (a:Led) (nx:Led),Chg l o' nx a→(l=lO∨l=lC)→(∀ p∈its++(lS,W.listOf #[] 0)::(E,oE)::(356,tabObj ps2)::(co2++base),p∈nx)→Chg l o' nx (its++a++(lS,W.listOf #[] 0)::(E,oE)::(356,tabObj ps2)::(co2++base)):=fun l o' a nx ha hl hs=>by
   have hits:∀ q∈its,q.1≠l:=fun q hq=>by
    rcases hl with rfl | rfl
    ·exact Ne.symm (hoff _ (.head _) q hq)
    ·exact Ne.symm (hoff _ (.tail _ (.head _)) q hq)
   have hlO:lO≤l:=by
    rcases hl with rfl | rfl
    ·exact Nat.le_refl _
    ·exact Nat.le_of_lt hOC
   refine ((Chg.rest fun p hp=>⟨hs p (apL hp),hits p hp⟩).app ha).app (.old (hs _ (apR (.head _))) ?_ (.old (hs _ (apR (.tail _ (.head _)))) (Nat.ne_of_lt (Nat.lt_of_lt_of_le (hOb _ (.head _)) hlO)) (.old (hs _ (apR (.tail _ (.tail _ (.head _))))) (Nat.ne_of_lt (Nat.lt_of_lt_of_le hP1 hlO)) (.rest fun p hp=>⟨hs p (apR (.tail _ (.tail _ (.tail _ hp)))),?_⟩))))
   ·rcases hl with rfl | rfl
    ·exact Nat.ne_of_gt hOS
    ·exact Nat.ne_of_gt hCS
   ·rcases apX hp with hp | hp
    ·rcases hl with rfl | rfl
     ·exact (hcd3 p hp).1.2.1
     ·exact (hcd3 p hp).1.2.2.1
    ·exact Nat.ne_of_lt (Nat.lt_of_lt_of_le (hbO p hp) hlO)
  have key:∀ os:Led,(C.fm w S__law_steps).CellIn [(Str.ofString "order",.v (.ref lO)),(Str.ofString "counts",.v (.ref lC)),(Str.ofString "steps",.v (.ref lS)),(Str.ofString "spot",.i 0),(Str.ofString "few",.v (.ref E)),(Str.ofString "one",.s (one z))] os→∀ y u,y∈five→KeyIs w kf (os++(kf,kla_obj "<lambda>" gh (G3 294 44) Bs Br [(Str.ofString "few",C.L + 1 + 1)] pmv c' ctv)::(356,tabObj ps2)::(co2++(its++(lO,W.listOf c.vo.toArray c.no)::(lC,W.listOf c.vc.toArray c.nc)::(lS,W.listOf #[] 0)::(E,oE)::base))) (.str (one y) u) (f y:Int):=fun os hcell y u hy=>by
   obtain ⟨o9,v9,m9,d9,e9⟩:=hcell _ _ _ rfl hcF
   obtain rfl:=e9
   exact ⟨DU (apR (.head _)) (apR (.tail _ (.tail _ (apL hc')))) hdc hvc (apL m9) d9 (apR (.tail _ (.tail _ (apR (apR (.tail _ (.tail _ (.tail _ (.head _)))))))))  hoE (hkat y hy).choose_spec⟩
  refine ok.useChg hC (l:=lO) (o':=W.listOf vo2.toArray (c.no + 1)) (d:=6) (nx2:=its++[(lO,W.listOf vo2.toArray (c.no + 1)),(lC,W.listOf c.vc.toArray c.nc)]++(lS,W.listOf #[] 0)::(E,oE)::(356,tabObj ps2)::(co2++base)) (by decide) (.tail _ (.tail _ (apR (apR (.head _))))) (chg lO _ _ _ (.new (.old (.tail _ (.tail _ (apR (apR (.tail _ (.head _)))))) (Nat.ne_of_gt hOC) .nil)) (.inl rfl) ?_) (fun os news' hcell hch=>?_) ?_
  ·walk_at "k_subs"
  ·refine oB (ns:=(aL f i).map fun c=>(f c:Int)) (apR (.tail _ (.tail _ (apR (apR (.head _)))))) (by rw [hlen,List.length_map,bH]) (by rw [List.length_map,bH];lia) (apR (.head _)) (fun j v hj=>?_) (key os hcell z u hc5) (hvo2▸hch)
   obtain ⟨c3,u3,h1,rfl⟩:=gS ho j v hj
   have e3:((aL f i).map fun c=>(f c:Int)).getD j 0=(f c3:Int):=by rw [List.getD_eq_getElem?_getD,List.getElem?_map,h1];rfl
   rw [e3]
   exact key os hcell c3 u3 (mv f i (by lia) c3 (List.mem_of_getElem? h1))
  obtain ⟨t2,ht2⟩:=hkat z hc5
  refine bc ok ?_
  refine bC ok (.v (.int (f z:Int) t2)) (apR (.tail _ (.head _))) hoE rfl ht2 rfl ?_
  refine gN fun a1 a2 a3 h1 h2 h3=>?_
  obtain rfl:=h1;obtain rfl:=h2
  obtain ⟨t6,rfl⟩:=h3
  have hc':IntsAre (kl_ins c.vc (bis (ltI (aO f i) (f z:Int)) 6 (aO f i).length:Nat) (.int (f z:Int) t2)) (aO f (i + 1)):=by
   have hle:=(a5 (ltI (aO f i) (f z:Int)) (lo:=6) (hi:=(aO f i).length) (by rw [cF];lia)).2
   rw [mx _ (by rw [hcl5];rw [cF] at hle;rw [cF];exact hle),aO,hgc]
   exact sL _ _ _ hcn
  refine ok.useChg hC (l:=lC) (o':=W.listOf (kl_ins c.vc (bis (ltI (aO f i) (f z:Int)) 6 (aO f i).length:Nat) (.int (f z:Int) t2)).toArray (c.nc + 1)) (d:=4) (nx2:=its++[(lC,W.listOf (kl_ins c.vc (bis (ltI (aO f i) (f z:Int)) 6 (aO f i).length:Nat) (.int (f z:Int) t2)).toArray (c.nc + 1)),(lO,W.listOf vo2.toArray (c.no + 1))]++(lS,W.listOf #[] 0)::(E,oE)::(356,tabObj ps2)::(co2++base)) (by decide) (apL (apR (.tail _ (.head _)))) (chg lC _ _ _ (.new (.old (apL (apR (.head _))) (Nat.ne_of_lt hOC) .nil)) (.inr rfl) ?_) (fun os news' _ hch=>?_) ?_
  ·exact q4 (fun p hp=>apL (apL hp)) fun p hp=>apR hp
  ·exact sH (lo:=6) (apR (apL (apR (.tail _ (.head _))))) hcn (by rw [cF];lia) (by rw [cF];lia) hch
  refine hQ1 _ _ ⟨vo2,_,c.no + 1,c.nc + 1,ps2,co2⟩ ⟨⟨ho',hc'⟩,hTab2,hcd3⟩ ⟨rfl,rfl,rfl,rfl,rfl,trivial⟩ ?_ ?_
  ·exact q4 (fun p hp=>apL (apL hp)) (dR (apL (apR (.tail _ (.head _)))) (dR (apL (apR (.head _))) fun p hp=>apR hp))
  ·intro p hp q hq
   rcases cnX hp with rfl | hp
   ·exact hoff _ (.head _) q hq
   ·rcases cnX hp with rfl | hp
    ·exact hoff _ (.tail _ (.head _)) q hq
    ·rcases cnX hp with rfl | hp
     ·exact hoff _ (.tail _ (.tail _ (.head _))) q hq
     ·rcases cnX hp with rfl | hp
      ·exact hoff _ (.tail _ (.tail _ (.tail _ (.head _)))) q hq
      ·rcases cnX hp with rfl | hp
       ·exact hoff (356,tabObj c.ps) (.tail _ (.tail _ (.tail _ (.tail _ (.head _))))) q hq
       ·rcases apX hp with hp | hp
        ·exact hoff2 p hp q hq
        ·exact hoff p (.tail _ (.tail _ (.tail _ (.tail _ (.tail _ (apR hp)))))) q hq
 ·obtain ⟨⟨ho,hcn⟩,hTab,hcd⟩:=hP
  obtain ⟨vo,vc,no,nc,ps1,co⟩:=c
  replace ho:StrsAre vo ((aL f 5).map one):=ho
  replace hcn:IntsAre vc (aO f 5):=hcn
  replace hTab:Tab gh ps1.toList co:=hTab
  have hvo5:vo.length=5:=by rw [ho.length,List.length_map,bH]
  have hvc11:vc.length=11:=by rw [hcn.length,cF]
  refine iR hC ?_
  refine cN ok (.head _) hvo5 (by decide) ?_
  refine cO rfl (fun r2 t2 u2 v2 hr2=>?_) hC
  refine iS hC (n:=5) (fun c:List Value×Nat×Nat=>[(Str.ofString "order",.v (.ref lO)),(Str.ofString "counts",.v (.ref lC)),(Str.ofString "steps",.v (.ref lS)),(Str.ofString "spot",.i c.2.2),(Str.ofString "few",.v (.ref E))]) (fun c=>(lO,W.listOf vo.toArray no)::(lC,W.listOf vc.toArray nc)::(lS,W.listOf c.1.toArray c.2.1)::(E,oE)::(356,tabObj ps1)::(co++base)) (fun i c=>IntsAre c.1 (ay f i).1∧c.2.2=(ay f i).2) ([],0,0) (.head _) rfl rfl ⟨⟨.nil,rfl⟩,⟨rfl,rfl,rfl,rfl,rfl,trivial⟩,fun p hp=>.tail _ hp⟩ (fun i c its hi hP hoff Q1 hQ1 hR1=>?_) (fun c hP=>?_)
  ·obtain ⟨vt,nt,sp⟩:=c
   obtain ⟨hvt,rfl⟩:=hP
   replace hvt:IntsAre vt (ay f i).1:=hvt
   refine ⟨.i i,its++(lO,W.listOf vo.toArray no)::(lC,W.listOf vc.toArray nc)::(lS,W.listOf vt.toArray nt)::(E,oE)::(356,tabObj ps1)::(co++base),fun t=>⟨t,by rw [Int.zero_add]⟩,fun _ h=>h,?_⟩
   refine aq ok (And.intro (fun hb=>?_) fun hb=>?_)
   ·have heq:i=(ay f i).2:=Int.ofNat_inj.mp (eq_of_beq hb)
    have hg5:(aL f 5).getD (ay f i).2 0∈five:=mv f 5 (Nat.le_refl _) _ (by
     have hl:(ay f i).2 < (aL f 5).length:=by rw [bH, ← heq];exact hi
     rw [List.getD_eq_getElem?_getD,List.getElem?_eq_getElem hl]
     exact List.getElem_mem _)
    obtain ⟨t9,ht9⟩:=nP hk hg5
    have hvl:vt.length≤5:=by rw [hvt.length];exact Nat.le_trans (gU f i) (Nat.le_of_lt hi)
    have e9:ay f (i + 1)=((ay f i).1++[(f ((aL f 5).getD (ay f i).2 0):Int)],bis (leI (aO f 5) (f ((aL f 5).getD (ay f i).2 0):Int)) (6 + (ay f i).2) 11 - 6):=by
     conv=>lhs;rw [ay]
     rw [if_pos heq, ← heq]
    have hbb:=(a5 (leI (aO f 5) (f ((aL f 5).getD (ay f i).2 0):Int)) (lo:=6 + (ay f i).2) (hi:=11) (by rw [← heq];lia)).1
    have hsp5:(ay f i).2 < 5:=heq▸hi
    generalize (ay f i).2=sp at *
    generalize hz:(aL f 5).getD sp 0=z at *
    refine aN ok (sm ok (apR (.tail _ (.tail _ (.head _)))) PySem.F.slot_list_append PySem.F.type_list_append (cwB ok ?_))
    refine aG ok (.s (one ((aL f 5).getD sp 0))) (apR (.head _)) rfl (Int.natCast_nonneg _) (by rw [hvo5];exact hsp5) (by rw [hvo5];decide) (DW ho (by rw [bH];exact hsp5)) ?_
    rw [hz]
    refine bC ok (.v (.int (f z:Int) t9)) (apR (.tail _ (.tail _ (.tail _ (.head _))))) hoE rfl ht9 rfl ?_
    refine xB ok (apR (.tail _ (.tail _ (.head _)))) (Nat.le_trans hvl (by decide)) fun y hy=>?_
    obtain rfl:=hy
    refine ⟨its++(lO,W.listOf vo.toArray no)::(lC,W.listOf vc.toArray nc)::(lS,W.listOf (vt++[Value.int (f z:Int) t9]).toArray (nt + 1))::(E,oE)::(356,tabObj ps1)::(co++base),?_,?_⟩
    ·refine (Chg.rest fun p hp=>⟨apL hp,Ne.symm (hoff _ (.tail _ (.tail _ (.head _))) p hp)⟩).app (.old (apR (.head _)) (Nat.ne_of_lt hOS) (.old (apR (.tail _ (.head _))) (Nat.ne_of_lt hCS) (.new (.old (apR (.tail _ (.tail _ (.tail _ (.head _))))) (Nat.ne_of_lt (hBS _ (.head _))) (.old (apR (.tail _ (.tail _ (.tail _ (.tail _ (.head _)))))) (Nat.ne_of_lt (hBS (356,tabObj ps) (.tail _ (.head _)))) (.rest fun p hp=>⟨apR (.tail _ (.tail _ (.tail _ (.tail _ (.tail _ hp))))),?_⟩))))))
     exact (apX hp).elim (fun hp=>(hcd p hp).1.2.2.2.1) fun hp=>Nat.ne_of_lt (hBS p (.tail _ (.tail _ (apR hp))))
    refine bc ok ?_
    refine DJ ok (.v (.int (f z:Int) t9)) (apR (.tail _ (.tail _ (.head _)))) rfl (Nat.le_trans hvl (by decide)) rfl ?_
    refine gN fun a1 a2 a3 h1 h2 h3=>?_
    obtain rfl:=h1;obtain rfl:=h2
    obtain ⟨t6,rfl⟩:=h3
    rw [show (11:Nat)=(aO f 5).length from (cF f 5).symm] at e9 hbb
    refine hC.useR (.i (bis (leI (aO f 5) (f z:Int)) (6 + sp) (aO f 5).length:Nat)) (d:=2) (by decide) (fun os=>?_) (R:=fun t=>.int (bis (leI (aO f 5) (f z:Int)) (6 + sp) (aO f 5).length:Nat) t) (fun t=>⟨t,rfl⟩) ?_
    ·exact Bp (lo:=6 + sp) (apR (apR (.tail _ (.head _)))) hcn (by rw [cF];decide) (by rw [cF];lia) (Nat.le_refl _) (.inl ⟨rfl,rfl⟩) (fun s X=>kp_binds X (fun _=>rfl))
    refine hQ1 _ _ (vt++[Value.int (f z:Int) t9],nt + 1,bis (leI (aO f 5) (f z:Int)) (6 + sp) (aO f 5).length - 6) ⟨?_,?_⟩ ⟨rfl,rfl,rfl,?_,rfl,trivial⟩ (fun p hp=>hp) ?_
    ·rw [e9];exact IntsAre.append hvt (.cons _ _ .nil)
    ·rw [e9]
    ·show (bis (leI (aO f 5) (f z:Int)) (6 + sp) (aO f 5).length:Int) - 6=((bis (leI (aO f 5) (f z:Int)) (6 + sp) (aO f 5).length - 6:Nat):Int)
     lia
    ·intro p hp q hq
     rcases cnX hp with rfl | hp
     ·exact hoff _ (.head _) q hq
     ·rcases cnX hp with rfl | hp
      ·exact hoff _ (.tail _ (.head _)) q hq
      ·rcases cnX hp with rfl | hp
       ·exact hoff (lS,W.listOf vt.toArray nt) (.tail _ (.tail _ (.head _))) q hq
       ·exact hoff p (.tail _ (.tail _ (.tail _ hp))) q hq
   ·have hne:¬ i=(ay f i).2:=fun h=>ne_of_beq_false hb (Int.ofNat_inj.mpr h)
    have e9:ay f (i + 1)=ay f i:=by
     conv=>lhs;rw [ay]
     rw [if_neg hne]
    exact hQ1 _ _ (vt,nt,(ay f i).2) ⟨by rw [e9];exact hvt,by rw [e9]⟩ ⟨rfl,rfl,rfl,rfl,rfl,trivial⟩ (fun p hp=>hp) hoff
  ·obtain ⟨vt,nt,sp⟩:=c
   obtain ⟨hvt, -⟩:=hP
   replace hvt:IntsAre vt (ay f 5).1:=hvt
   have mE:(E,oE)∈(lO,W.listOf vo.toArray no)::(lC,W.listOf vc.toArray nc)::(lS,W.listOf vt.toArray nt)::(E,oE)::(356,tabObj ps1)::(co++base):=.tail _ (.tail _ (.tail _ (.head _)))
   have fin:∀ (nx:Led),(∀ p∈(lS,W.listOf vt.toArray nt)::(E,oE)::(356,tabObj ps1)::(co++base),p∈nx)→Dk (C.fm w S__law_steps) [.v (.ref E),.v (.ref lS)] [(Str.ofString "order",.v (.ref lO)),(Str.ofString "counts",.v (.ref lC)),(Str.ofString "steps",.v (.ref lS)),(Str.ofString "spot",.i sp),(Str.ofString "few",.v (.ref E))] nx (fun v=>Q (.ret v)):=fun nx hnx=>by
    refine tR ok (aD rfl) fun T xs hxs hT9=>?_
    obtain ⟨a,b,ha,hb⟩:=AllIs.two hxs
    obtain rfl:=ha;obtain rfl:=hb
    refine hw _ _ _ ((T,({ cls:=.type "tuple",data:=.seq #[.ref E,.ref lS] }:Obj))::(E,oE)::(lS,W.listOf vt.toArray nt)::(356,tabObj ps1)::(co++base)) ?_ (hr _ _ _ fun y hy=>?_)
    ·refine dR (.head _) fun p hp=>.tail _ (hnx p ?_)
     rcases cnX hp with rfl | hp
     ·exact .tail _ (.head _)
     ·rcases cnX hp with rfl | hp
      ·exact .head _
      ·exact .tail _ (.tail _ hp)
    ·obtain rfl:=hy
     have hb2:∀ q∈base,q∈(356,tabObj ps)::(codes++base):=fun q hq=>.tail _ (apR hq)
     refine .mk T E lS oE kvs vt nt ps1 co hTab hk hoE hvt (fun p hp=>⟨(hcd p hp).1.1,(hcd p hp).2⟩) (fun q hq=>⟨Nat.ne_of_lt (hT9 q (hnx q ?_)),hDb q (hb2 q hq),Nat.ne_of_lt (hBS q (.tail _ (hb2 q hq)))⟩) ⟨Ne.symm (hDb _ (.head _)),Nat.ne_of_gt (hBS _ (.tail _ (.head _)))⟩
     exact .tail _ (.tail _ (.tail _ (apR hq)))
   refine ny ok ?_
   refine bF ok (by rw [henv];rfl) ?_
   refine cO rfl (fun r2 t2 u2 v2 hr2=>?_) hC
   refine nH ok (oy:=none) [(Str.ofString "few",.v (.ref E))] (fun i=>.i i) (fun j=>.s (one (five.getD j 0))) (fun _:Unit=>(lO,W.listOf vo.toArray no)::(lC,W.listOf vc.toArray nc)::(lS,W.listOf vt.toArray nt)::(E,oE)::(356,tabObj ps1)::(co++base)) (fun i j ys _=>Kt f i j ys) () (fi ok (n:=5) (.head _) rfl rfl) (n2:=5) (It2:=SignAt (Str.ofString "ahkmp")) (need2:=[]) ⟨⟨rfl,⟨_,fun _=>rfl,hcF⟩,rfl,rfl⟩,trivial⟩ (fun i v ⟨t,e⟩=>⟨t,by rw [e,Int.zero_add]⟩) (fun j v hv=>dM hv) (fun i j ys _ hi hj h=>by have:=h.2.2.1;lia) (fun _ _ _ _ _=>⟨fun p hp=>(nomatch hp),fun p hp=>nomatch hp⟩) ⟨⟨by decide,by decide,by decide,.nil⟩,fun p hp=>.tail _ hp⟩ (fun i ys _ hi h=>⟨hi,by decide,by have:=h.2.2.1;lia,Bl f i▸h.2.2.2⟩) (fun i ys _ hi h κ okG Qs hQs=>?_) (fun i hi j ys _ hj hJ κ okG Qy Qn hQy hQn=>?_) (fun ys _ E2 hJ hE2=>?_)
   ·exact hQs _ _ _ (dN okG) ⟨rfl,trivial⟩ fun p hp=>hp
   ·obtain ⟨hc,hc5⟩:=dj hj
    obtain ⟨t9,ht9⟩:=nP hk hc5
    refine bC okG (.v (.int (f (five.getD j 0):Int) t9)) mE hoE rfl ht9 rfl ?_
    refine And.intro (fun hb=>?_) fun hb=>?_
    ·have he:f (five.getD j 0)=i:=Int.ofNat_inj.mp (eq_of_beq hb)
     refine hQy _ _ _ () (fun y ⟨u,hy⟩=>⟨hJ.1,hj,?_,?_⟩) (fun p hp=>hp) ⟨rfl,trivial⟩
     ·have:=hJ.2.2.1;simp only [List.length_append,List.length_singleton];lia
     ·rw [sG f i hc,if_pos he,List.map_append,hy]
      exact StrsAre.snoc hJ.2.2.2 _ _
    ·have he:¬ f (five.getD j 0)=i:=fun h=>ne_of_beq_false hb (Int.ofNat_inj.mpr h)
     refine hQn _ _ () ⟨hJ.1,hj,?_,?_⟩ (fun p hp=>hp) ⟨rfl,trivial⟩
     ·have:=hJ.2.2.1;lia
     ·rw [sG f i hc,if_neg he]
      exact hJ.2.2.2
   ·have hord5:aL f 5=gV f 5 0:=DO hf
    refine GQ ok hC (.tail _ (.head _)) (.head _) ho hJ.2.2.2 (fun c hc=>ph (mv f 5 (Nat.le_refl _) c hc)) (fun c hc=>ph (mv f 5 (Nat.le_refl _) c (hord5▸hc))) (by decide) ?_
    rw [decide_eq_true hord5]
    refine And.intro (fun _=>fin _ fun p hp=>.tail _ (.tail _ (.tail _ hp))) nofun
end Mine
end
section
namespace Mine
noncomputable def p3b:List Stmt:=by refine (fun (_:B__law_painted.getD 3 (.Pass default)=.For ?a ?b ?y ?c ?d)=>?y) ?hh;case hh=>(conv=>lhs;whnf)
noncomputable def p5b:List Stmt:=by refine (fun (_:B__law_painted.getD 5 (.Pass default)=.For ?a ?b ?y ?c ?d)=>?y) ?hh;case hh=>(conv=>lhs;whnf)
noncomputable def p3c:PySem.Expr:=by refine (fun (_:p3b.getD 5 (.Pass default)=.Expr ?y ?j)=>?y) ?hh;case hh=>(conv=>lhs;whnf)
noncomputable def wD:Arguments:=by refine (fun (_:p3b.getD 5 (.Pass default)=.Expr (.Call ?a ?b (⟨?c,.Lambda ?y ?d ?e ?f,?g⟩::?h) ?i) ?j)=>?y) ?hh;case hh=>(conv=>lhs;whnf)
noncomputable def wF:PySem.Expr:=by refine (fun (_:p3b.getD 5 (.Pass default)=.Expr (.Call ?a ?b (⟨?c,.Lambda ?d ?y ?e ?f,?g⟩::?h) ?i) ?j)=>?y) ?hh;case hh=>(conv=>lhs;whnf)
noncomputable def wG:Scope:=by refine (fun (_:p3b.getD 5 (.Pass default)=.Expr (.Call ?a ?b (⟨?c,.Lambda ?d ?e ?y ?f,?g⟩::?h) ?i) ?j)=>?y) ?hh;case hh=>(conv=>lhs;whnf)
noncomputable def wH:Arguments:=by refine (fun (_:p5b.getD 0 (.Pass default)=.Assign ?k (.ListComp (.Subscript ?l (.Slice ?m (some (.Call ?a ?b (⟨?c,.Lambda ?y ?d ?e ?f,?g⟩::?h) ?i)) ?o ?p) ?q) ?r ?s ?t) ?u)=>?y) ?hh;case hh=>(conv=>lhs;whnf)
noncomputable def wI:PySem.Expr:=by refine (fun (_:p5b.getD 0 (.Pass default)=.Assign ?k (.ListComp (.Subscript ?l (.Slice ?m (some (.Call ?a ?b (⟨?c,.Lambda ?d ?y ?e ?f,?g⟩::?h) ?i)) ?o ?p) ?q) ?r ?s ?t) ?u)=>?y) ?hh;case hh=>(conv=>lhs;whnf)
noncomputable def wJ:Scope:=by refine (fun (_:p5b.getD 0 (.Pass default)=.Assign ?k (.ListComp (.Subscript ?l (.Slice ?m (some (.Call ?a ?b (⟨?c,.Lambda ?d ?e ?y ?f,?g⟩::?h) ?i)) ?o ?p) ?q) ?r ?s ?t) ?u)=>?y) ?hh;case hh=>(conv=>lhs;whnf)
noncomputable def gX (cut y:Int):Int:=y - 1000 * (if decide (cut < y)=true then 1 else 0)
noncomputable abbrev ey:Str:=(Str.ofString "_law_painted"++Str.ofString ".<locals>.")++Str.ofString "<lambda>"
noncomputable def fo (f g:Nat→Nat):List Int:=(ay g 5).1++(ay f 5).1
noncomputable def gY (f g:Nat→Nat) (c:Nat):Int:=(bis (ltI (fo f g) (f c)) (ay g 5).1.length (fo f g).length:Nat) - (ay g 5).1.length
noncomputable def ma (f g:Nat→Nat) (c:Nat):Int:=((ay g 5).1.length:Int) - 1 - (bis (ltI (fo f g) (g c)) 0 (ay g 5).1.length:Nat)
noncomputable def clamp (x:Int):Int:=min (max x 0) 4
noncomputable def aH (f g:Nat→Nat) (c:Nat):Int:=clamp (min (gY f g c) (ma f g c))
noncomputable def aa (f g:Nat→Nat) (c:Nat):Int:=clamp (max (gY f g c) (ma f g c))
noncomputable def rowAt (b:Nat→Int):Nat→List Nat
 | 0=>[]
 | i + 1=>eV (rowAt b i) (bis (ltI ((rowAt b i).map fun c=>1000 * b c) (1000 * b (five.getD i 0))) 0 (rowAt b i).length) (five.getD i 0)
noncomputable def lk (b:Nat→Int):Nat→List Int
 | 0=>[-1]
 | i + 1=>eV (lk b i) (bis (leI (lk b i) (1000 * b (five.getD i 0))) 0 i) (1000 * b (five.getD i 0))
def iY (d b:Nat→Int) (i:Nat) (kvs:List (Str×Value)) (sl:List (Addr×Obj)):Prop :=
 ∃ σ:Nat→Addr,kvs=(five.take i).map (fun c=>(one c,Value.ref (σ c)))∧∀ c∈five.take i,∃ t t',(σ c,W.listOf #[Value.int (1000 * d c) t,.int (1000 * b c) t'] 0)∈sl
theorem Jy {i c:Nat} (h:five[i]?=some c):i < 5:=(List.getElem?_eq_some_iff.mp h).1
theorem ub {a b:Int} {ns:List Int} (hp:ns.Perm [a,b]) (hs:ns.Pairwise (· ≤ ·)):ns=[min a b,max a b]:=by
 have hl:ns.length=2:=hp.length_eq
 match ns,hl with
 | [x, y], _ =>
  have hxy:x≤y:=by
   rw [List.pairwise_cons] at hs
   exact hs.1 y (.head _)
  have hx:x=a∨x=b:=by simpa using hp.mem_iff.mp (.head _)
  rcases hx with rfl | rfl
  ·have:=List.singleton_perm_singleton.mp hp.cons_inv
   subst this
   rw [Int.min_eq_left hxy,Int.max_eq_right hxy]
  ·have:=List.singleton_perm_singleton.mp (hp.trans (List.Perm.swap x a [])).cons_inv
   subst this
   rw [Int.min_eq_right hxy,Int.max_eq_left hxy]
theorem Bw (x:Int):0≤clamp x:=Int.le_min.mpr ⟨Int.le_max_right _ _,by decide⟩
theorem Bx (x:Int):clamp x≤4:=Int.min_le_right _ _
theorem uc {x y:Int} (h:x≤y):clamp x≤clamp y:=Int.le_min.mpr ⟨Int.le_trans (Int.min_le_left _ _) (Int.max_le.mpr ⟨Int.le_trans h (Int.le_max_left _ _),Int.le_max_right _ _⟩),Int.min_le_right _ _⟩
theorem G5 (a b:Int):min a b≤max a b:=Int.le_trans (Int.min_le_left _ _) (Int.le_max_left _ _)
theorem G6 (x:Int):(if (4:Int) < (if (0:Int) > x then 0 else x) then 4 else (if (0:Int) > x then 0 else x))=clamp x:=by
 have e:(if (0:Int) > x then 0 else x)=max x 0:=by
  rw [Int.max_def]
  by_cases h:x≤0
  ·rw [if_pos h]
   by_cases h2:(0:Int) > x
   ·rw [if_pos h2]
   ·rw [if_neg h2];exact Int.le_antisymm h (Int.not_lt.mp h2)
  ·rw [if_neg h,if_neg fun h2=>h (Int.le_of_lt h2)]
 rw [e]
 show _=min (max x 0) 4
 rw [Int.min_def]
 by_cases h:(4:Int) < max x 0
 ·rw [if_pos h,if_neg (Int.not_le.mpr h)]
 ·rw [if_neg h,if_pos (Int.not_lt.mp h)]
theorem ru (n:Nat) (h:n≤4):clamp (n:Int)=n:=by
 unfold clamp
 rw [Int.max_eq_left (Int.natCast_nonneg n),Int.min_eq_left (show (n:Int)≤4 from Int.ofNat_le.mpr h)]
theorem Ku {a b:Nat} (ha:a≤4) (hb:b≤4):clamp (min (a:Int) (b:Int))=((min a b:Nat):Int)∧clamp (max (a:Int) b)=((max a b:Nat):Int)∧max a b≤4∧min a b≤4:=by
 rcases Nat.le_total a b with h | h
 ·rw [Nat.min_eq_left h,Nat.max_eq_right h,Int.min_eq_left (Int.ofNat_le.mpr h),Int.max_eq_right (Int.ofNat_le.mpr h)]
  exact ⟨ru _ ha,ru _ hb,hb,ha⟩
 ·rw [Nat.min_eq_right h,Nat.max_eq_left h,Int.min_eq_right (Int.ofNat_le.mpr h),Int.max_eq_left (Int.ofNat_le.mpr h)]
  exact ⟨ru _ hb,ru _ ha,ha,hb⟩
theorem xI (f g:Nat→Nat) (c:Nat):0≤aH f g c∧aH f g c≤aa f g c∧aa f g c≤4:=by
 exact ⟨Bw _,uc (G5 _ _),Bx _⟩
inductive cG (h:Heap):List Value→List (List Nat)→Prop
 | nil:cG h [] []
 | cons {a:Addr} {vs:List Value} {ns:List Nat} {xs:List Value} {rs:List (List Nat)}:h.IsList a vs.toArray→StrsAre vs (ns.map one)→cG h xs rs→cG h (.ref a::xs) (ns::rs)
noncomputable def ll (ns:List Nat):PyData:=.list ((ns.map one).map PyData.str)
theorem ud {h:Heap}:∀ {xs:List Value} {rs:List (List Nat)},cG h xs rs→∃ as,ReadsAll h xs (rs.map ll) as:=by
 intro z0 z1 zz
 induction zz with
 | nil =>
  exact ⟨_,.nil⟩
 | cons h1 h2 h3 ih =>
  obtain ⟨as,h4⟩:=ih
  exact ⟨_,.cons (reads_newData h1 (dg h2)) h4⟩
theorem il {h:Heap} {a:Addr} {xs:List Value} {rs:List (List Nat)} (hl:h.IsList a xs.toArray) (hr:cG h xs rs):∃ as,Reads h (.ref a) (.list (rs.map ll)) as:=by
 obtain ⟨as,h4⟩:=ud hr
 obtain ⟨o,ho,hc,n,hd⟩:=id hl
 exact ⟨_,.list ho hc hd h4⟩
theorem By:∀ rs:List (List Nat),(∀ r∈rs,∀ c∈r,c < 1114112)→PyData.canLayAll0 (rs.map ll)=true:=by
 intro zz
 induction zz with
 | nil =>
  intro _
  exact rfl
 | cons r rs ih =>
  intro h
  have h1:=ih fun x hx=>h x (.tail _ hx)
  have h2:=q5 r (h r (.head _))
  simp only [List.map_cons,PyData.canLayAll0,h1,ll,PyData.canLay0,h2,Bool.and_self]
theorem ue:∀ rs:List (List Nat),PyData.depthAll (rs.map ll)≤1:=by
 intro zz
 induction zz with
 | nil =>
  exact Nat.zero_le _
 | cons r rs ih =>
  have h1:=ih
  have h2:=oW (r.map one)
  simp only [List.map_cons,PyData.depthAll,ll,PyData.depth,h2] at h1 ⊢
  lia
theorem eA (rs:List (List Nat)) (h:∀ r∈rs,∀ c∈r,c < 1114112):SeqAt.shaped (.list (rs.map ll))=true:=by
 have h1:=By rs h
 have h2:=ue rs
 have h3:PyData.depthAll (rs.map ll) + 1≤64:=by lia
 simp only [SeqAt.shaped,PyData.canLay0,PyData.depth,h1,Bool.true_and]
 exact decide_eq_true h3
theorem pj:∀ rs ts:List (List Nat),PySem.Spec.sameAll (rs.map ll) (ts.map ll)=decide (rs=ts):=by
 intro rs
 induction rs with
 | nil=>intro ts;cases ts <;> simp [PySem.Spec.sameAll]
 | cons a r ih =>
  intro ts
  cases ts with
  | nil=>simp [PySem.Spec.sameAll]
  | cons b t =>
   have h1:PySem.Spec.same (ll a) (ll b)=decide (a=b):=by rw [ll,ll,ni,nj]
   simp only [List.map_cons,PySem.Spec.sameAll,h1,ih t]
   by_cases h:a=b <;> by_cases h':r=t <;> simp [h,h']
section
variable {prog:Program} {w:World} {A:Around} {E:Value→Shared→Prop} {s:Shared} {a b:Addr} {xs ys:List Value} {rs ts:List (List Nat)} {Q:Value→Shared→Prop}
theorem DX (ha:s.heap.IsList a xs.toArray) (hb:s.heap.IsList b ys.toArray) (hi:cG s.heap xs rs) (hj:cG s.heap ys ts) (h1:∀ r∈rs,∀ c∈r,c < 1114112) (h2:∀ r∈ts,∀ c∈r,c < 1114112) (hu:A.units + 64 < cLine) (h:Q (.bool (decide (rs=ts))) s) :
  wpAny (model prog w) A (compareOp .Eq (.ref a) (.ref b)) Q E s:=by
 obtain ⟨as,r1⟩:=il ha hi
 obtain ⟨bs,r2⟩:=il hb hj
 exact eq_dataH_same r1 r2 (eA _ h1) (eA _ h2) hu (SeqAt.noMix_of_shape (.list (.list .str)) rfl _ _ (list_map_has fun _=>list_map_has fun _=>rfl) (list_map_has fun _=>list_map_has fun _=>rfl)) (by simp only [PySem.Spec.same];rw [pj];exact h)
theorem DY (ha:s.heap.IsList a xs.toArray) (hb:s.heap.IsList b ys.toArray) (hi:cG s.heap xs rs) (hj:cG s.heap ys ts) (h1:∀ r∈rs,∀ c∈r,c < 1114112) (h2:∀ r∈ts,∀ c∈r,c < 1114112) (hu:A.units + 64 < cLine) (h:Q (.bool (!decide (rs=ts))) s) :
  wpAny (model prog w) A (compareOp .NotEq (.ref a) (.ref b)) Q E s:=by
 obtain ⟨as,r1⟩:=il ha hi
 obtain ⟨bs,r2⟩:=il hb hj
 exact ne_dataH_same r1 r2 (eA _ h1) (eA _ h2) hu (SeqAt.noMix_of_shape (.list (.list .str)) rfl _ _ (list_map_has fun _=>list_map_has fun _=>rfl) (list_map_has fun _=>list_map_has fun _=>rfl)) (by simp only [PySem.Spec.same];rw [pj];exact h)
end
inductive RowsN (news:List (Addr×Obj)):List Value→List (List Nat)→Prop
 | nil:RowsN news [] []
 | cons (a:Addr) (vs:List Value) (ns:List Nat) (n:Nat) {xs:List Value} {rs:List (List Nat)}:(a,W.listOf vs.toArray n)∈news→StrsAre vs (ns.map one)→RowsN news xs rs→RowsN news (.ref a::xs) (ns::rs)
theorem RowsN.mono {news news':List (Addr×Obj)} {xs:List Value} {rs:List (List Nat)} (h:RowsN news xs rs) (hs:∀ p∈news,p∈news'):RowsN news' xs rs:=by
 induction h with
 | nil=>exact .nil
 | cons a vs ns n hm hv _ ih=>exact .cons a vs ns n (hs _ hm) hv ih
theorem RowsN.snoc {news:List (Addr×Obj)} {xs:List Value} {rs:List (List Nat)} (h:RowsN news xs rs) {a:Addr} {vs:List Value} {ns:List Nat} {n:Nat} (hm:(a,W.listOf vs.toArray n)∈news) (hv:StrsAre vs (ns.map one)):RowsN news (xs++[.ref a]) (rs++[ns]):=by
 induction h with
 | nil=>exact .cons a vs ns n hm hv .nil
 | cons a' vs' ns' n' hm' hv' _ ih=>exact .cons a' vs' ns' n' hm' hv' ih
theorem RowsN.are {h₀ h:Heap} {L:Addr} {news:List (Addr×Obj)} (N:News h₀ L h news) {xs:List Value} {rs:List (List Nat)} (hr:RowsN news xs rs):cG h xs rs:=by
 induction hr with
 | nil=>exact .nil
 | cons a vs ns n hm hv _ ih=>exact .cons (News.isList N hm) hv ih
theorem one_inj {a b:Nat} (h:one a=one b):a=b:=by simpa [one] using h
theorem G8 {g:Nat→Value}:∀ {l:List Nat} {x:Nat},x∈l→valueAt (l.map fun c=>(one c,g c)) (one x)=some (g x):=by
 intro zz
 induction zz with
 | nil=>exact nofun
 | cons y r ih =>
  intro x h
  unfold valueAt
  rw [List.map_cons,List.find?_cons]
  by_cases e:y=x
  ·subst e;simp
  ·have e':¬ one y=one x:=fun h=>e (one_inj h)
   simp only [e',decide_false]
   rcases cnX h with h | h
   ·exact absurd h.symm e
   ·exact ih h
theorem DZ {g:Nat→Value}:∀ {l:List Nat} {x:Nat},x∉l→valueAt (l.map fun c=>(one c,g c)) (one x)=none:=by
 intro zz
 induction zz with
 | nil =>
  intro _ _
  exact rfl
 | cons y r ih =>
  intro x h
  unfold valueAt
  rw [List.map_cons,List.find?_cons]
  have e':¬ one y=one x:=fun e=>h (one_inj e▸.head _)
  simp only [e',decide_false]
  exact ih fun hm=>h (.tail _ hm)
theorem uf {i c:Nat} (h:five[i]?=some c):c∉five.take i:=by
 have hi:=Jy h
 rcases (by lia:i=0∨i=1∨i=2∨i=3∨i=4) with rfl | rfl | rfl | rfl | rfl <;> cases h <;> decide
theorem ba {i c:Nat} (h:five[i]?=some c):five.take (i + 1)=five.take i++[c]:=by
 rw [List.take_add_one,h];rfl
theorem Bz {d b:Nat→Int} {i:Nat} {kvs:List (Str×Value)} {sl:List (Addr×Obj)} (h:iY d b i kvs sl) (hi:i≤5):kvs.length≤5:=by
 obtain ⟨σ,rfl,_⟩:=h
 rw [List.length_map,List.length_take]
 lia
theorem xJ {d b:Nat→Int} {i c:Nat} {kvs:List (Str×Value)} {sl:List (Addr×Obj)} {lN:Addr} {ta tb:Tok} (h:iY d b i kvs sl) (hc:five[i]?=some c):iY d b (i + 1) (stored kvs (one c) (.ref lN)) ((lN,W.listOf #[Value.int (1000 * d c) ta,.int (1000 * b c) tb] 0)::sl):=by
 obtain ⟨σ,rfl,hs⟩:=h
 have hf:=uf hc
 refine ⟨fun z=>if z=c then lN else σ z,?_,fun z hz=>?_⟩
 ·rw [stored_absent (DZ hf),ba hc,List.map_append]
  congr 1
  ·refine List.map_congr_left fun z hz=>?_
   dsimp only
   rw [if_neg (fun (e:z=c)=>hf (e▸hz))]
  ·simp
 ·rw [ba hc] at hz
  rcases apX hz with hz | hz
  ·obtain ⟨t,t',h⟩:=hs z hz
   dsimp only
   rw [if_neg (fun (e:z=c)=>hf (e▸hz))]
   exact ⟨t,t',.tail _ h⟩
  ·rw [sgX hz]
   dsimp only
   rw [if_pos rfl]
   exact ⟨ta,tb,.head _⟩
theorem fY {b:Nat→Int}:∀ {i x:Nat},i≤5→x∈rowAt b i→x∈five.take i:=by
 intro zz
 induction zz with
 | zero =>
  intro _ _ h
  cases h
 | succ i ih =>
  intro x hi h
  rw [rowAt] at h
  rw [fk (by lia)]
  rcases sE h with h | rfl
  ·exact apL (ih (by lia) h)
  ·exact apR (.head _)
theorem bT (b:Nat→Int):∀ i,(rowAt b i).length=i
 | 0=>rfl
 | i + 1=>by rw [rowAt,kW,bT b i]
theorem lK (b:Nat→Int):∀ i,(lk b i).length=i + 1
 | 0=>rfl
 | i + 1=>by rw [lk,kW,lK b i]
structure TabFor (w:World) (base₀:List (Addr×Obj)) (x:Addr) (f:Nat→Nat):Prop where
 ex:∃ d l t0,(x,instObj 317 d)∈base₀∧(d,bx w l t0)∈base₀
 le:∀ c∈five,f c≤4
 get:∀ (news':List (Addr×Obj)) (c:Nat) (t:Tok),c∈five→(∀ p∈base₀,p∈news')→ah w (.ref 256) [.ref x,.str (one c) t] [] 5 news' (fun v nx=>∃ (D:Addr) (ys:List Value),v=.ref D∧nx=(D,W.listOf ys.toArray ys.length)::news'∧(∀ p∈news',p.1≠D)∧ys.length=f c)
inductive Crowds (news:List (Addr×Obj)) (vr:List Value) (k:Nat→Nat):List Nat→List Value→Prop
 | nil:Crowds news vr k [] []
 | cons (c:Nat) (a:Addr) (n:Nat) {cs:List Nat} {ys:List Value}:(a,W.listOf (vr.take (k c)).toArray n)∈news→Crowds news vr k cs ys→Crowds news vr k (c::cs) (.ref a::ys)
theorem Crowds.mono {news news':List (Addr×Obj)} {vr:List Value} {k:Nat→Nat} {cs:List Nat} {ys:List Value} (h:Crowds news vr k cs ys) (hs:∀ p∈news,p∈news'):Crowds news' vr k cs ys:=by
 induction h with
 | nil=>exact .nil
 | cons c a n hm _ ih=>exact .cons c a n (hs _ hm) ih
theorem Crowds.snoc {news:List (Addr×Obj)} {vr:List Value} {k:Nat→Nat} {cs:List Nat} {ys:List Value} (h:Crowds news vr k cs ys) {c:Nat} {a:Addr} {n:Nat} (hm:(a,W.listOf (vr.take (k c)).toArray n)∈news):Crowds news vr k (cs++[c]) (ys++[.ref a]):=by
 induction h with
 | nil=>exact .cons c a n hm .nil
 | cons c' a' n' hm' _ ih=>exact .cons c' a' n' hm' ih
theorem Crowds.len {news:List (Addr×Obj)} {vr:List Value} {k:Nat→Nat} {cs:List Nat} {ys:List Value} (h:Crowds news vr k cs ys):ys.length=cs.length:=by
 induction h with
 | nil=>rfl
 | cons _ _ _ _ _ ih=>simp [ih]
inductive wK (d b:Nat→Int) (x:Nat) (kvs:List (Str×Value)) (sl:List (Addr×Obj)):Prop
 | mk (lc:Addr) (ta tb:Tok):valueAt kvs (one x)=some (.ref lc)→(lc,W.listOf #[Value.int (1000 * d x) ta,.int (1000 * b x) tb] 0)∈sl→wK d b x kvs sl
theorem dW {d b:Nat→Int} {i x:Nat} {kvs:List (Str×Value)} {sl:List (Addr×Obj)} (h:iY d b i kvs sl) (hx:x∈five.take i):wK d b x kvs sl:=by
 obtain ⟨σ,rfl,hs⟩:=h
 obtain ⟨t,t',h⟩:=hs x hx
 exact ⟨_,t,t',G8 hx,h⟩
theorem xK (vs:List Value) (k:Nat):kms_pick vs.toArray.toList none (some (k:Int))=vs.take k:=by
 unfold kms_pick kms_lo kms_hi
 have h:¬ (k:Int) < 0:=by lia
 simp only [h,if_false,List.drop_zero,Nat.sub_zero,Int.toNat_natCast]
 rw [List.take_eq_take_iff]
 simp
noncomputable def dC (d b:Nat→Int) (c:Nat):Nat:=bis (ltI (lk b 5) (1000 * d c)) 0 5
noncomputable def fq (d b:Nat→Int) (cut:Int) (c:Nat):Nat:=bis (ltI ((rowAt b 5).map fun x=>gX cut (1000 * b x)) (gX cut (1000 * d c))) 0 5
noncomputable def dX (b:Nat→Int) (k:Nat→Nat):List (List Nat):=five.map fun c=>(rowAt b 5).take (k c)
theorem pn:∀ {vs:List Value} {ns:List Nat} (k:Nat),StrsAre vs (ns.map one)→StrsAre (vs.take k) ((ns.take k).map one):=by
 intro vs ns k h
 induction k generalizing vs ns with
 | zero=>exact .nil
 | succ k ih => cases ns with
  | nil=>cases h;exact .nil
  | cons n r => cases h with
   | cons _ t r=>exact .cons _ t (ih r)
theorem Crowds.rows {news:List (Addr×Obj)} {vr:List Value} {k:Nat→Nat} {cs:List Nat} {ys:List Value} {row:List Nat} (h:Crowds news vr k cs ys) (hv:StrsAre vr (row.map one)):RowsN news ys (cs.map fun c=>row.take (k c)):=by
 induction h with
 | nil=>exact .nil
 | cons c a n hm _ ih=>exact .cons a _ _ n hm (pn _ hv) ih
noncomputable def cT (d b:Nat→Int):Nat→Int
 | 0=>0
 | i + 1=>cT d b i + (if dX b (fq d b (0 + (i:Int) * 1000))=dX b (dC d b) then 0 else 1)
noncomputable def rev5:List Nat:=[112,109,107,104,97]
theorem xM:(Str.ofString "pmkha").cps.size=5:=by kernel_rfl
theorem D5 {i c:Nat} (h:(Str.ofString "pmkha").cps[i]?=some c):rev5[i]?=some c:=by
 have e:(Str.ofString "pmkha").cps.toList=rev5:=by kernel_rfl
 rw [← e,Array.getElem?_toList];exact h
noncomputable def oF (β:Nat→Nat) (i j:Nat):List Nat:=byV β (List.range i) rev5++byV β [i] (rev5.take j)
theorem wL (β:Nat→Nat) (zs:List Nat):byV β zs []=[]:=by
 unfold byV
 induction zs with
 | nil=>rfl
 | cons z zs ih=>simp
theorem xN (β:Nat→Nat) (i:Nat):oF β i 5=oF β (i + 1) 0:=by
 unfold oF
 rw [List.range_succ,bG,List.take_zero,wL,List.append_nil]
 rfl
theorem pq (β:Nat→Nat) (i:Nat) {j c:Nat} (h:rev5[j]?=some c):oF β i (j + 1)=if β c=i then oF β i j++[c] else oF β i j:=by
 have ht:rev5.take (j + 1)=rev5.take j++[c]:=by rw [List.take_add_one,h];rfl
 unfold oF
 rw [ht]
 by_cases hc:β c=i
 ·rw [if_pos hc, ← hc,rn,List.append_assoc]
 ·rw [if_neg hc,gT (fun hm=>hc (sgX hm))]
def Kv (β:Nat→Nat) (i j:Nat) (ys:List Value):Prop:=i≤5∧j≤5∧ys.length≤5 * i + j∧StrsAre ys ((oF β i j).map one)
theorem Crowds.get {news:List (Addr×Obj)} {vr:List Value} {k:Nat→Nat}:∀ {cs:List Nat} {ys:List Value},Crowds news vr k cs ys→∀ {i:Nat} {v:Value},ys[i]?=some v→∃ c a n,cs[i]?=some c∧v=.ref a∧(a,W.listOf (vr.take (k c)).toArray n)∈news:=by
 intro cs ys H
 induction H with
 | nil=>intro i v h;exact aV h
 | cons c a n hm r ih =>
  intro i v h
  cases i with
  | zero=>exact ⟨c,a,n,rfl,(Option.some.inj h).symm,hm⟩
  | succ i=>exact ih h
noncomputable def dY (β δ:Nat→Nat) (c:Nat):List Nat:=five.filter fun x=>decide (β x < δ c)
theorem five_up5:five.Pairwise (· ≤ ·):=by decide
theorem five_nodup:five.Nodup:=by decide
theorem ug (β:Nat→Nat) (l:List Nat):∀ n,(byV β (List.range n) l).Perm (l.filter fun x=>decide (β x < n)):=by
 intro zz
 induction zz with
 | zero =>
  rw [show byV β (List.range 0) l=[] from rfl,List.filter_eq_nil_iff.mpr (fun x _=>by simp)]
 | succ n ih =>
  rw [List.range_succ,bG]
  have h1:byV β [n] l=l.filter fun x=>β x==n:=by
   unfold byV
   simp
  rw [h1]
  refine ((ih).append_right _).trans ?_
  clear h1 ih
  induction l with
  | nil=>exact .refl _
  | cons x l ih =>
   simp only [List.filter_cons]
   by_cases h1:β x < n
   ·have e1:decide (β x < n)=true:=decide_eq_true h1
    have e2:decide (β x < n + 1)=true:=decide_eq_true (by lia)
    have e3:(β x==n)=false:=by rw [beq_eq_false_iff_ne];lia
    rw [e1,e2,e3]
    exact ih.cons x
   ·have e1:decide (β x < n)=false:=decide_eq_false h1
    rw [e1]
    by_cases h3:β x=n
    ·have e2:decide (β x < n + 1)=true:=decide_eq_true (by lia)
     have e3:(β x==n)=true:=by rw [h3];exact beq_self_eq_true n
     rw [e2,e3]
     exact List.perm_middle.trans (ih.cons x)
    ·have e2:decide (β x < n + 1)=false:=decide_eq_false (by lia)
     have e3:(β x==n)=false:=by rw [beq_eq_false_iff_ne];exact h3
     rw [e2,e3]
     exact ih
theorem G9 {a b:Nat} (h:Spec.ltCps (one b).cps.toList (one a).cps.toList=false):a≤b:=by
 have:(decide (b < a) || (b==a && Spec.ltCps [] []))=false:=h
 rw [Bool.or_eq_false_iff] at this
 have:=of_decide_eq_false this.1
 lia
theorem sN:∀ (p:Nat) (l:List Nat),risingS (one p) (l.map one)=true→(p::l).Pairwise (· ≤ ·):=by
 intro p zz
 induction zz generalizing p with
 | nil =>
  intro _
  exact List.pairwise_singleton _ _
 | cons x r ih =>
  intro h
  have h':(!Spec.ltCps (one x).cps.toList (one p).cps.toList && risingS (one x) (r.map one))=true:=h
  rw [Bool.and_eq_true,Bool.not_eq_true'] at h'
  have h1:=G9 h'.1
  have h2:=ih x h'.2
  refine List.Pairwise.cons (fun y hy=>?_) h2
  rcases cnX hy with rfl | hy
  ·exact h1
  ·exact Nat.le_trans h1 (List.rel_of_pairwise_cons h2 hy)
theorem sO:∀ (l:List Nat),sortedS (l.map one)=true→l.Pairwise (· ≤ ·)
 | [],_=>.nil
 | x::r,h=>sN x r h
theorem xO {ss:List Str} {ns:List Nat} (h:ss.Perm (ns.map one)):∃ ms:List Nat,ss=ms.map one∧ms.Perm ns:=by
 have hm:∀ x∈ss,∃ c,x=one c:=fun x hx=>by
  obtain ⟨c,_,e⟩:=List.mem_map.mp (h.mem_iff.mp hx)
  exact ⟨c,e.symm⟩
 have he:ss=(ss.map fun x=>x.cps.toList.headD 0).map one:=by
  rw [List.map_map]
  conv=>lhs;rw [← List.map_id ss]
  refine List.map_congr_left fun x hx=>?_
  obtain ⟨c,rfl⟩:=hm x hx
  rfl
 refine ⟨_,he,?_⟩
 have h2:=h.map (fun x:Str=>x.cps.toList.headD 0)
 rw [List.map_map] at h2
 rwa [show ns.map ((fun x:Str=>x.cps.toList.headD 0) ∘ one)=ns from (List.map_congr_left fun _ _=>rfl).trans (List.map_id ns)] at h2
theorem xP {ss:List Str} {ns ts:List Nat} (hp:ss.Perm (ns.map one)) (hs:sortedS ss=true) (ht:ts.Perm ns) (hu:ts.Pairwise (· ≤ ·)):ss=ts.map one:=by
 obtain ⟨ms,rfl,hm⟩:=xO hp
 rw [List.Perm.eq_of_pairwise (le:=fun a b:Nat=>a≤b) (fun a b _ _ h1 h2=>Nat.le_antisymm h1 h2) (sO ms hs) hu (hm.trans ht.symm)]
section
variable {prog:Program} {w:World} {A:Around} {E:Value→Shared→Prop} {s:Shared} {h₀:Heap} {L:Addr} {m:Str→Option Value} {news:List (Addr×Obj)}
theorem xQ {l:Addr} {vs:List Value} {n:Nat} {ns ts:List Nat} {Q:Value→Shared→Prop} (F:Fr h₀ L s.heap m) (N:News h₀ L s.heap news) (hl:(l,W.listOf vs.toArray n)∈news) (hS:StrsAre vs (ns.map one)) (h64:vs.length < 64) (ht:ts.Perm ns) (hu:ts.Pairwise (· ≤ ·))
  (h:∀ (h':Heap) (D:Addr) (vs':List Value) (e:Nat),Fr h₀ L h' m→News h₀ L h' ((D,W.listOf vs'.toArray e)::news)→(∀ p∈news,p.1 < D)→StrsAre vs' (ts.map one)→Q (.ref D) { s with heap:=h' }) :
  wpAny (model prog w) A (call (.builtin "sorted") [.ref l]) Q E s :=
 sorted_N_str F N (News.isList N hl) hS h64 fun h' vs' ss' e F' N' i p q=>by
  refine h h' _ vs' e F' N' (fun p hp=>Nat.lt_succ_of_lt (News.low N p hp)) ?_
  rw [← xP p q ht hu];exact i
end
end Mine
end
section
namespace Mine
local macro_rules | `(tactic| k_ne) => `(tactic| first | (refine Nat.ne_of_gt ?_; (try dsimp only); omega) | (refine Nat.ne_of_lt ?_; (try dsimp only); omega))
local macro_rules | `(tactic| walk_at "subscriptTail Name Name ref str") => `(tactic| refine cB ?_)
local macro_rules | `(tactic| walk_at "eval Name") => `(tactic| k_dflt (refine' nameX_F ?N ?c ?m ?d ?_ ?a ?b; (case a => rfl); (case b => rfl); (case N => k_asm); (case c => rfl); (case m => k_mem); (case d => k_asm); k_whole))
theorem BA {w:World} {news:List (Addr×Obj)} {kf c' cA D lN:Addr} {oc o9 oD:Obj} {vs1:Array Value} {t1:Tok} {qual:Str} {pm ctv:Value} {kvs:List (Str×Value)} {c:Nat} {x y:Int} {u ta tb:Tok}
  (hkf:(kf,kla_obj (Str.ofString "<lambda>") qual wD wF wG [(Str.ofString "seen",cA)] pm c' ctv)∈news) (hc':(c',oc)∈news) (hdc:oc.data=.fields vs1) (hvc:vs1[1]?=some (.str qual t1)) (hcA:(cA,o9)∈news) (ho9:o9.data=.cell (some (.ref D))) (hD:(D,oD)∈news) (hoD:oD.IsDictOf (PySem.strKind PySem.Challenge.rw_tc0096_01.prog w) kvs) (hat:valueAt kvs (one c)=some (.ref lN)) (hlN:(lN,W.listOf #[Value.int x ta,.int y tb] 0)∈news) :
  az w (.ref kf) [.str (one c) u] [] 2 news (fun t=>.int y t):=by
 delta wD wF wG at hkf
 dsimp only at hkf
 (try unfold az);(try unfold ah);(try unfold bp);k_fill;intro p loose mean mg mb dp un gd cn nm b1 b2 mr a ccd cl outer A₀ base h₀ L m s Q E B F X N T hd hu hret
 replace N:=News.add (News.add (News.add (News.add (News.add N hlN) (.tail _ hD)) (.tail _ (.tail _ hcA))) (.tail _ (.tail _ (.tail _ hc')))) (.tail _ (.tail _ (.tail _ (.tail _ hkf))))
 refine wpAny_call ?_
 refine' kla_code ?k1 ?k2 ?k3 ?k4 ?k5 ?kA ?kF ?kK ?k6 ?k7 ?k8 ?k9 ?kB ?_ ?c2 ?c3 ?c4 ?c5
 case kA=>exact rfl
 case kF=>exact rfl
 case kK=>exact rfl
 case k1=>k_asm
 case k2=>k_asm
 case k3=>k_asm
 case k4=>exact N
 case k5=>k_asm
 case k6=>exact .head _
 case k7=>exact codeRec_news N (.tail _ (.head _)) hdc hvc
 case k8=>ktr_room
 case k9=>exact rfl
 case c5=>decide
 case kB=>exact locs rfl
 case c2=>exact rfl
 case c3=>exact rfl
 case c4=>exact rfl
 k_whole
 intro g' L' h' FG' F' N' B' X' T'
 (try dsimp only)
 (try k_fold)
 rename News _ _ _ _=>N9
 k_steps
 unfold aF
 refine kda_item (knd:=PySem.strKind _ _) N9 (.tail _ (.tail _ (.tail _ (.head _)))) hoD (strKind_is _ _ _ _) hat ?_
 k_steps
 exact hret _ _ _ _ ⟨rfl,tb,rfl⟩ (by k_asm) (News.of ‹News h₀ L h' (_::_)› fun p hp=>.tail _ (.tail _ (.tail _ (.tail _ (.tail _ hp)))))

local macro_rules | `(tactic| walk_at "k_sub") => `(tactic| repeat (first | exact vP | (refine dR ?hq ?_; (case hq => repeat (first | exact .head _ | refine .tail _ ?_))) | refine An ?_))
local macro_rules | `(tactic| k_all) => `(tactic| first | exact List.forall_mem_nil _ | (refine' List.forall_mem_cons.mpr ⟨?a, ?b⟩; (case a => k_ne); (case b => k_all)) | exact all1 (by assumption) | exact all1 (kst_ltOf (by assumption)) | exact all2 (by assumption) | exact all2 (kst_ltOf (by assumption)) | exact Iz (by assumption) | exact Iz (kst_ltOf (by assumption)) | exact Iy (by assumption) | exact Iy (kst_ltOf (by assumption)))
local macro_rules | `(tactic| walk_at $k:str) => if ["exec For", "exec For Name Call cons nil", "eval ListComp", "exec Assign cons ListComp", "call builtin:len", "call builtin:sorted", "CompSrc", "CompEnd", "eval Lambda", "call ref", "compareOp NotEq ref ref"].contains k.getString then `(tactic| refine cB ?_) else Lean.Macro.throwUnsupported
theorem BC {w:World} {news:List (Addr×Obj)} {kf c' cA cC D lN:Addr} {oc o9 oD oC:Obj} {cut:Int} {tc:Tok} {vs1:Array Value} {t1:Tok} {qual:Str} {pm ctv:Value} {kvs:List (Str×Value)} {c:Nat} {x y:Int} {u ta tb:Tok}
  (hkf:(kf,kla_obj (Str.ofString "<lambda>") qual wH wI wJ [(Str.ofString "seen",cA),(Str.ofString "cut",cC)] pm c' ctv)∈news) (hc':(c',oc)∈news) (hdc:oc.data=.fields vs1) (hvc:vs1[1]?=some (.str qual t1)) (hcA:(cA,o9)∈news) (ho9:o9.data=.cell (some (.ref D))) (hcC:(cC,oC)∈news) (hoC:oC.data=.cell (some (.int cut tc))) (hD:(D,oD)∈news) (hoD:oD.IsDictOf (PySem.strKind PySem.Challenge.rw_tc0096_01.prog w) kvs) (hat:valueAt kvs (one c)=some (.ref lN)) (hlN:(lN,W.listOf #[Value.int x ta,.int y tb] 0)∈news) :
  az w (.ref kf) [.str (one c) u] [] 2 news (fun t=>.int (gX cut y) t):=by
 delta wH wI wJ at hkf
 dsimp only at hkf
 (try unfold az);(try unfold ah);(try unfold bp);k_fill;intro p loose mean mg mb dp un gd cn nm b1 b2 mr a ccd cl outer A₀ base h₀ L m s Q E B F X N T hd hu hret
 replace N:=News.of (news':=(kf,_)::(c',oc)::(cA,o9)::(D,oD)::(lN,_)::(cC,oC)::news) N (by intro p hp;simp only [List.mem_cons] at hp;rcases hp with rfl | rfl | rfl | rfl | rfl | rfl | hp <;> assumption)
 refine wpAny_call ?_
 refine' kla_code ?k1 ?k2 ?k3 ?k4 ?k5 ?kA ?kF ?kK ?k6 ?k7 ?k8 ?k9 ?kB ?_ ?c2 ?c3 ?c4 ?c5
 case kA=>exact rfl
 case kF=>exact rfl
 case kK=>exact rfl
 case k1=>k_asm
 case k2=>k_asm
 case k3=>k_asm
 case k4=>exact N
 case k5=>k_asm
 case k6=>exact .head _
 case k7=>exact codeRec_news N (.tail _ (.head _)) hdc hvc
 case k8=>ktr_room
 case k9=>exact rfl
 case c5=>decide
 case kB=>exact locs rfl
 case c2=>exact rfl
 case c3=>exact rfl
 case c4=>exact rfl
 k_whole
 intro g' L' h' FG' F' N' B' X' T'
 (try dsimp only)
 (try k_fold)
 rename News _ _ _ _=>N9
 k_steps
 unfold aF
 refine kda_item (knd:=PySem.strKind _ _) N9 (.tail _ (.tail _ (.tail _ (.head _)))) hoD (strKind_is _ _ _ _) hat ?_
 k_steps
 unfold aF
 refine kda_item (knd:=PySem.strKind _ _) N9 (.tail _ (.tail _ (.tail _ (.head _)))) hoD (strKind_is _ _ _ _) hat ?_
 k_steps
 exact hret _ _ _ _ ⟨rfl,_,rfl⟩ (by k_asm) (News.of ‹News h₀ L h' (_::_)› fun p hp=>.tail _ (.tail _ (.tail _ (.tail _ (.tail _ (.tail _ hp))))))
end Mine
end
section
namespace Mine
theorem aP {b:Bool} (h:b=false):¬ b=true:=fun e=>Bool.false_ne_true (h.symm.trans e)
theorem lM {F:Fm} {pm:PM} {nx:Led} (ok:F.Ok) {a b c:PV} {x y z:UInt64} {T:UInt64×UInt64×UInt64} {Q:KF} (hr:∀ v pm nx',(∀ y,v.Is y→xn nx T y nx')→Q (.ret v) pm nx') (ha:asF a=some x) (hb:asF b=some y) (hc:asF c=some z) (hT:T=(x,y,z)):Dk F [a,b,c] pm nx fun v=>Q (.ret v):=by
 refine tR ok (aD rfl) fun D xs hx hD=>hr _ _ _ fun y hy=>?_
 obtain ⟨x1,x2,x3,h1,h2,h3⟩:=AllIs.three hx
 obtain ⟨t1,rfl⟩:=a6 ha h1
 obtain ⟨t2,rfl⟩:=a6 hb h2
 obtain ⟨t3,rfl⟩:=a6 hc h3
 exact ⟨D,_,_,_,_,_,_,hy,rfl,hD,hT⟩
theorem ne_of_beq_false {a b:Int} (h:(a==b)=false):a≠b:=by simpa using h
theorem nz1:¬ Float64.isZero FO=true:=by decide +kernel
theorem Ha {w:World} {news:List (Addr×Obj)} {x y z:UInt64} {t1 t2 t3:Tok}:ah w (.ref 95) [.float x t1,.float y t2,.float z t3] [] 2 news (fun v nx=>nx=news∧∃ t,v=.float (vF x y z) t):=by
 refine enter (D:=1) [(Str.ofString "m1",Value.float x t1),(Str.ofString "m2",Value.float y t2),(Str.ofString "hue",Value.float z t3)] rfl rfl (fun s _=>BindsTo.of_eq rfl) rfl rfl fun C hC lN hcl Q hr hn hw=>?_
 have ok:=Cx.fmOk hC
 have ret:∀ v pm,(∀ y':Value,v.Is y'→∃ t,y'=.float (vF x y z) t)→Q (.ret v) pm news:=fun v pm h=>hr _ _ _ fun y hy=>⟨rfl,h y hy⟩
 clear hr hn
 unfold vF at ret
 refine And.intro nz1 ?_
 refine aq ok (And.intro (fun h1=>?_) (fun h1=>?_))
 ·rw [if_pos h1] at ret;exact ret _ _ fun _ h=>h
 rw [if_neg (aP h1)] at ret
 refine aq ok (And.intro (fun h2=>?_) (fun h2=>?_))
 ·rw [if_pos h2] at ret;exact ret _ _ fun _ h=>⟨_,h⟩
 rw [if_neg (aP h2)] at ret
 refine aq ok (And.intro (fun h3=>?_) (fun h3=>?_))
 ·rw [if_pos h3] at ret;exact ret _ _ fun _ h=>h
 rw [if_neg (aP h3)] at ret
 exact ret _ _ fun _ h=>⟨_,h⟩
theorem BD {w:World} {news:List (Addr×Obj)} {x y z:UInt64} {t1 t2 t3:Tok} (hok:Ao x y):ah w (.ref 109) [.float x t1,.float y t2,.float z t3] [] 2 news (xn news (C6 x y z)):=by
 refine enter (D:=1) [(Str.ofString "h",Value.float x t1),(Str.ofString "s",Value.float y t2),(Str.ofString "v",Value.float z t3)] rfl rfl (fun s _=>BindsTo.of_eq rfl) rfl rfl fun C hC lN hcl Q hr hn hw=>?_
 have ok:=Cx.fmOk hC
 clear hn
 unfold C6 at hr
 refine aq ok (And.intro (fun h1=>?_) (fun h1=>?_))
 ·rw [if_pos h1] at hr;exact lM ok hr rfl rfl rfl rfl
 rw [if_neg (aP h1)] at hr
 obtain ⟨o1,o2,o3⟩:=hok.resolve_left (aP h1)
 refine q7 ok rfl o1 o2 ?_
 refine And.intro (Nat.lt_of_not_le o3) ?_
 refine And.intro (by decide) ?_
 have hb:=Int.fmod_nonneg_of_pos (d6 x) (by decide:(0:Int) < 6)
 have hc:=Int.fmod_lt_of_pos (d6 x) (by decide:(0:Int) < 6)
 refine aq ok (And.intro (fun (e0:((d6 x).fmod 6==0)=true)=>?_) (fun (e0:((d6 x).fmod 6==0)=false)=>?_))
 ·rw [if_pos (eq_of_beq e0)] at hr;exact lM ok hr rfl rfl rfl rfl
 rw [if_neg (ne_of_beq_false e0)] at hr
 refine aq ok (And.intro (fun (e1:((d6 x).fmod 6==1)=true)=>?_) (fun (e1:((d6 x).fmod 6==1)=false)=>?_))
 ·rw [if_pos (eq_of_beq e1)] at hr;exact lM ok hr rfl rfl rfl rfl
 rw [if_neg (ne_of_beq_false e1)] at hr
 refine aq ok (And.intro (fun (e2:((d6 x).fmod 6==2)=true)=>?_) (fun (e2:((d6 x).fmod 6==2)=false)=>?_))
 ·rw [if_pos (eq_of_beq e2)] at hr;exact lM ok hr rfl rfl rfl rfl
 rw [if_neg (ne_of_beq_false e2)] at hr
 refine aq ok (And.intro (fun (e3:((d6 x).fmod 6==3)=true)=>?_) (fun (e3:((d6 x).fmod 6==3)=false)=>?_))
 ·rw [if_pos (eq_of_beq e3)] at hr;exact lM ok hr rfl rfl rfl rfl
 rw [if_neg (ne_of_beq_false e3)] at hr
 refine aq ok (And.intro (fun (e4:((d6 x).fmod 6==4)=true)=>?_) (fun (e4:((d6 x).fmod 6==4)=false)=>?_))
 ·rw [if_pos (eq_of_beq e4)] at hr;exact lM ok hr rfl rfl rfl rfl
 rw [if_neg (ne_of_beq_false e4)] at hr
 refine aq ok (And.intro (fun (e5:((d6 x).fmod 6==5)=true)=>?_) (fun (e5:((d6 x).fmod 6==5)=false)=>?_))
 ·exact lM ok hr rfl rfl rfl rfl
 have:=ne_of_beq_false e0;have:=ne_of_beq_false e1;have:=ne_of_beq_false e2;have:=ne_of_beq_false e3;have:=ne_of_beq_false e4;have:=ne_of_beq_false e5
 lia
section
variable {C:Cx} {w:World} {sc:Scope} {pm:PM} {nx:Led} {D:Nat}
theorem Hb (hC:C.Ok w sc D) {a b c:PV} {x y z:UInt64} {Q:KV} (hD:2≤D) (ha:asF a=some x) (hb:asF b=some y) (hc:asF c=some z) (h:Q (.f (vF x y z)) pm nx):aI (C.fm w sc) (.ref 95) [a,b,c] pm nx Q:=by
 refine gN fun u1 u2 u3 h1 h2 h3=>?_
 obtain ⟨t1,rfl⟩:=a6 ha h1
 obtain ⟨t2,rfl⟩:=a6 hb h2
 obtain ⟨t3,rfl⟩:=a6 hc h3
 exact hC.useR (R:=fun t=>.float (vF x y z) t) (.f (vF x y z)) hD (fun os=>Ha) (fun t=>⟨t,rfl⟩) h
end
noncomputable def D7 (x y z:UInt64):UInt64×UInt64×UInt64 :=
 if (Float64.cmp z 0==some Ordering.eq)=true then (y,y,y)
 else (vF (Float64.sub (Float64.mul 4611686018427387904 y) (ng y z)) (ng y z) (Float64.add x 4599676419421066581),vF (Float64.sub (Float64.mul 4611686018427387904 y) (ng y z)) (ng y z) x,vF (Float64.sub (Float64.mul 4611686018427387904 y) (ng y z)) (ng y z) (Float64.sub x 4599676419421066581))
theorem BE {w:World} {news:List (Addr×Obj)} {x y z:UInt64} {t1 t2 t3:Tok}:ah w (.ref 88) [.float x t1,.float y t2,.float z t3] [] 6 news (xn news (D7 x y z)):=by
 refine enter (D:=5) [(Str.ofString "h",Value.float x t1),(Str.ofString "l",Value.float y t2),(Str.ofString "s",Value.float z t3)] rfl rfl (fun s _=>BindsTo.of_eq rfl) rfl rfl fun C hC lN hcl Q hr hn hw=>?_
 have ok:=Cx.fmOk hC
 clear hn
 unfold D7 at hr
 refine aq ok (And.intro (fun h1=>?_) (fun h1=>?_))
 ·rw [if_pos h1] at hr;exact lM ok hr rfl rfl rfl rfl
 rw [if_neg (aP h1)] at hr
 refine meet ok [(Str.ofString "h",.v (.float x t1)),(Str.ofString "l",.v (.float y t2)),(Str.ofString "m2",.f (ng y z))] news (fun Q' hQ=>aq ok (And.intro (fun h2=>?_) (fun h2=>?_))) ?_
 ·exact (hQ _ _ ⟨rfl,rfl,(if_pos h2).symm,trivial⟩ fun _ h=>h)
 ·exact (hQ _ _ ⟨rfl,rfl,(if_neg (aP h2)).symm,trivial⟩ fun _ h=>h)
 refine bc ok ?_
 refine Hb hC (by decide) rfl rfl rfl ?_
 refine bc ok ?_
 refine Hb hC (by decide) rfl rfl rfl ?_
 refine bc ok ?_
 refine Hb hC (by decide) rfl rfl rfl ?_
 exact lM ok hr rfl rfl rfl rfl
end Mine
end
section
namespace Mine
noncomputable def Jz (M m x y z:UInt64):UInt64 :=
 (Float64.divmod (Float64.div
  (if (Float64.cmp x M == some Ordering.eq) = true then Float64.sub (Float64.div (Float64.sub M z) (Float64.sub M m)) (Float64.div (Float64.sub M y) (Float64.sub M m))
   else if (Float64.cmp y M==some Ordering.eq)=true then Float64.sub (Float64.add 4611686018427387904 (Float64.div (Float64.sub M x) (Float64.sub M m))) (Float64.div (Float64.sub M z) (Float64.sub M m))
   else Float64.sub (Float64.add 4616189618054758400 (Float64.div (Float64.sub M y) (Float64.sub M m))) (Float64.div (Float64.sub M x) (Float64.sub M m))) F6) FO).2
noncomputable def sP (M m:UInt64):UInt64:=Float64.div (Float64.add M m) 4611686018427387904
noncomputable def wM (x y z:UInt64):UInt64×UInt64×UInt64 :=
 if (Float64.cmp (aU x y z) (aK x y z)==some Ordering.eq)=true then (0,sP (aK x y z) (aU x y z),0)
 else (Jz (aK x y z) (aU x y z) x y z,sP (aK x y z) (aU x y z),
  if (Float64.cmp (sP (aK x y z) (aU x y z)) 4602678819172646912==some Ordering.lt || Float64.cmp (sP (aK x y z) (aU x y z)) 4602678819172646912==some Ordering.eq)=true
  then Float64.div (Float64.sub (aK x y z) (aU x y z)) (Float64.add (aK x y z) (aU x y z))
  else Float64.div (Float64.sub (aK x y z) (aU x y z)) (Float64.sub (Float64.sub 4611686018427387904 (aK x y z)) (aU x y z)))
def rx (x y z:UInt64):Prop:=(Float64.cmp (aU x y z) (aK x y z)==some Ordering.eq)=true ∨
 (Float64.isZero (Float64.sub (aK x y z) (aU x y z))=false∧Float64.isZero (Float64.add (aK x y z) (aU x y z))=false∧Float64.isZero (Float64.sub (Float64.sub 4611686018427387904 (aK x y z)) (aU x y z))=false)
noncomputable def wN (x y z:UInt64):UInt64×UInt64×UInt64 :=
 if (Float64.cmp (aU x y z) (aK x y z)==some Ordering.eq)=true then (0,0,aK x y z)
 else (Jz (aK x y z) (aU x y z) x y z,Float64.div (Float64.sub (aK x y z) (aU x y z)) (aK x y z),aK x y z)
def ry (x y z:UInt64):Prop:=(Float64.cmp (aU x y z) (aK x y z)==some Ordering.eq)=true ∨
 (Float64.isZero (Float64.sub (aK x y z) (aU x y z))=false∧Float64.isZero (aK x y z)=false)
theorem xS {w:World} {news:List (Addr×Obj)} {x y z:UInt64} {t1 t2 t3:Tok} (ok:rx x y z):ah w (.ref 81) [.float x t1,.float y t2,.float z t3] [] 2 news (xn news (wM x y z)):=by
 refine enter (D:=1) [(Str.ofString "r",Value.float x t1),(Str.ofString "g",Value.float y t2),(Str.ofString "b",Value.float z t3)] rfl rfl (fun s _=>BindsTo.of_eq rfl) rfl rfl fun C hC lN hcl Q hr hn hw=>?_
 have ok':=Cx.fmOk hC
 clear hn
 refine vX rfl rfl rfl ?_
 refine vY rfl rfl rfl ?_
 unfold wM rx at *
 generalize aK x y z=M at *
 generalize aU x y z=m at *
 refine And.intro (by decide +kernel) ?_
 refine aq ok' (And.intro (fun hb=>?_) (fun hb=>?_))
 ·refine lM ok' hr rfl rfl rfl ?_
  rw [if_pos hb];rfl
 ·obtain ⟨o1,o2,o3⟩:=ok.resolve_left (aP hb)
  rw [if_neg (aP hb)] at hr
  generalize hS:(if (Float64.cmp (sP M m) 4602678819172646912==some Ordering.lt || Float64.cmp (sP M m) 4602678819172646912==some Ordering.eq)=true
  then Float64.div (Float64.sub M m) (Float64.add M m) else Float64.div (Float64.sub M m) (Float64.sub (Float64.sub 4611686018427387904 M) m))=S
  refine meet ok' [(Str.ofString "r",.v (.float x t1)),(Str.ofString "g",.v (.float y t2)),(Str.ofString "b",.v (.float z t3)),(Str.ofString "maxc",.f M),(Str.ofString "rangec",.f (Float64.sub M m)),(Str.ofString "l",.f (sP M m)),(Str.ofString "s",.f S)] news (fun Q' hQ=>aq ok' (And.intro (fun hb=>?_) (fun hb=>?_))) ?_
  ·refine And.intro (aP o2) (hQ _ _ ⟨rfl,rfl,rfl,rfl,rfl,rfl,?_,trivial⟩ fun _ h=>h)
   exact (if_pos hb).symm.trans hS
  ·refine And.intro (aP o3) (hQ _ _ ⟨rfl,rfl,rfl,rfl,rfl,rfl,?_,trivial⟩ fun _ h=>h)
   exact (if_neg (aP hb)).symm.trans hS
  ·have o1':¬ Float64.isZero (Float64.sub M m)=true:=aP o1
   refine And.intro o1' (And.intro o1' (And.intro o1' ?_))
   generalize hH:(if (Float64.cmp x M==some Ordering.eq)=true then Float64.sub (Float64.div (Float64.sub M z) (Float64.sub M m)) (Float64.div (Float64.sub M y) (Float64.sub M m))
   else if (Float64.cmp y M==some Ordering.eq)=true then Float64.sub (Float64.add 4611686018427387904 (Float64.div (Float64.sub M x) (Float64.sub M m))) (Float64.div (Float64.sub M z) (Float64.sub M m))
   else Float64.sub (Float64.add 4616189618054758400 (Float64.div (Float64.sub M y) (Float64.sub M m))) (Float64.div (Float64.sub M x) (Float64.sub M m)))=H
   refine meet ok' [(Str.ofString "l",.f (sP M m)),(Str.ofString "s",.f S),(Str.ofString "h",.f H)] news (fun Q' hQ=>aq ok' (And.intro (fun hb=>?_) (fun hb=>?_))) ?_
   ·refine (hQ _ _ ⟨rfl,rfl,?_,trivial⟩ fun _ h=>h)
    exact (if_pos hb).symm.trans hH
   ·rw [if_neg (aP hb)] at hH
    refine aq ok' (And.intro (fun hb=>?_) (fun hb=>?_))
    ·refine (hQ _ _ ⟨rfl,rfl,?_,trivial⟩ fun _ h=>h)
     exact (if_pos hb).symm.trans hH
    ·refine (hQ _ _ ⟨rfl,rfl,?_,trivial⟩ fun _ h=>h)
     exact (if_neg (aP hb)).symm.trans hH
   ·refine And.intro (by decide +kernel) (And.intro (by decide +kernel) ?_)
    refine lM ok' hr rfl rfl rfl ?_
    rw [← hH, ← hS];rfl
theorem xT {w:World} {news:List (Addr×Obj)} {x y z:UInt64} {t1 t2 t3:Tok} (ok:ry x y z):ah w (.ref 102) [.float x t1,.float y t2,.float z t3] [] 2 news (xn news (wN x y z)):=by
 refine enter (D:=1) [(Str.ofString "r",Value.float x t1),(Str.ofString "g",Value.float y t2),(Str.ofString "b",Value.float z t3)] rfl rfl (fun s _=>BindsTo.of_eq rfl) rfl rfl fun C hC lN hcl Q hr hn hw=>?_
 have ok':=Cx.fmOk hC
 clear hn
 refine vX rfl rfl rfl ?_
 refine vY rfl rfl rfl ?_
 unfold wN ry at *
 generalize aK x y z=M at *
 generalize aU x y z=m at *
 refine aq ok' (And.intro (fun hb=>?_) (fun hb=>?_))
 ·refine lM ok' hr rfl rfl rfl ?_
  rw [if_pos hb]
 ·obtain ⟨o1,o2⟩:=ok.resolve_left (by rw [hb];exact Bool.false_ne_true)
  rw [if_neg (aP hb)] at hr
  have o1':¬ Float64.isZero (Float64.sub M m)=true:=aP o1
  refine And.intro (aP o2) (And.intro o1' (And.intro o1' (And.intro o1' ?_)))
  generalize hH:(if (Float64.cmp x M==some Ordering.eq)=true then Float64.sub (Float64.div (Float64.sub M z) (Float64.sub M m)) (Float64.div (Float64.sub M y) (Float64.sub M m))
   else if (Float64.cmp y M==some Ordering.eq)=true then Float64.sub (Float64.add 4611686018427387904 (Float64.div (Float64.sub M x) (Float64.sub M m))) (Float64.div (Float64.sub M z) (Float64.sub M m))
   else Float64.sub (Float64.add 4616189618054758400 (Float64.div (Float64.sub M y) (Float64.sub M m))) (Float64.div (Float64.sub M x) (Float64.sub M m)))=H
  refine meet ok' [(Str.ofString "v",.f M),(Str.ofString "s",.f (Float64.div (Float64.sub M m) M)),(Str.ofString "h",.f H)] news (fun Q' hQ=>aq ok' (And.intro (fun hb=>?_) (fun hb=>?_))) ?_
  ·exact (hQ _ _ ⟨rfl,rfl,(if_pos hb).symm.trans hH,trivial⟩ fun _ h=>h)
  ·rw [if_neg (aP hb)] at hH
   refine aq ok' (And.intro (fun hb=>?_) (fun hb=>?_))
   ·exact (hQ _ _ ⟨rfl,rfl,(if_pos hb).symm.trans hH,trivial⟩ fun _ h=>h)
   ·exact (hQ _ _ ⟨rfl,rfl,(if_neg (aP hb)).symm.trans hH,trivial⟩ fun _ h=>h)
  ·refine And.intro (by decide +kernel) (And.intro (by decide +kernel) ?_)
   refine lM ok' hr rfl rfl rfl ?_
   rw [← hH];rfl
end Mine
end
section
namespace Mine
structure PX where
 Da:Addr
 Db:Addr
 lSa:Addr
 lSb:Addr
 Do:Addr
 lR:Addr
 lV:Addr
 dS:Addr
 lh:Addr
 oDa:Obj
 oDb:Obj
 kva:List (Str×Value)
 kvb:List (Str×Value)
 vta:List Value
 vtb:List Value
 vh:List Value
 nta:Nat
 ntb:Nat
 nh:Nat
 hs:List Int
 f:Nat→Nat
 g:Nat→Nat
 ps:Array Value
 co:Led
 base:Led
 co2:Led
noncomputable def PX.fix (X:PX):Led:=(X.Do,W.listOf (X.vta++X.vtb).toArray 0)::(X.lSa,W.listOf X.vta.toArray X.nta)::(X.lSb,W.listOf X.vtb.toArray X.ntb)::(X.Da,X.oDa)::(X.Db,X.oDb)::(X.lh,W.listOf X.vh.toArray X.nh)::(356,tabObj X.ps)::(X.co++X.base)
structure PS where
 vr:List Value
 vv:List Value
 nr:Nat
 nv:Nat
 kvs:List (Str×Value)
 oD:Obj
 ps:Array Value
 co:Led
 sl:Led
noncomputable def PX.led (X:PX) (c:PS):Led:=(X.lR,W.listOf c.vr.toArray c.nr)::(X.lV,W.listOf c.vv.toArray c.nv)::(X.dS,c.oD)::(361,tabObj c.ps)::(c.co++(c.sl++X.fix))
noncomputable def PX.pm (X:PX):PM:=[(Str.ofString "both",.v (.ref X.Do)),(Str.ofString "row",.v (.ref X.lR)),(Str.ofString "levels",.v (.ref X.lV)),(Str.ofString "seen",.v (.ref X.dS)),(Str.ofString "changed",.i 0),(Str.ofString "fewer",.v (.ref X.Db)),(Str.ofString "more",.v (.ref X.Da)),(Str.ofString "highs",.v (.ref X.lSa)),(Str.ofString "lows",.v (.ref X.lSb)),(Str.ofString "hues",.v (.ref X.lh))]
noncomputable def PX.pm1 (X:PX) (i z:Nat):PM:=put (Str.ofString "one") (.s (one z)) (put (Str.ofString "k") (.i i) X.pm)
noncomputable def PX.pm2 (X:PX) (i z:Nat):PM:=put (Str.ofString "first") (.i (gY X.f X.g z)) (put (Str.ofString "last") (.i (ma X.f X.g z)) (X.pm1 i z))
noncomputable def PX.pm3 (X:PX) (i z:Nat):PM:=(Str.ofString "dim",.i (aH X.f X.g z))::(Str.ofString "bright",.i (aa X.f X.g z))::X.pm1 i z
structure PX.Ok (X:PX) (w:World):Prop where
 ia:IntsAre X.vta (ay X.g 5).1
 ib:IntsAre X.vtb (ay X.f 5).1
 da:X.oDa.IsDictOf (PySem.strKind PySem.Challenge.rw_tc0096_01.prog w) X.kva
 db:X.oDb.IsDictOf (PySem.strKind PySem.Challenge.rw_tc0096_01.prog w) X.kvb
 ka:lg X.g 5 X.kva
 kb:lg X.f 5 X.kvb
 hh:IntsAre X.vh X.hs
 h5:X.hs.length=5
 hr:∀ h∈X.hs,0≤h∧h < 72
 old:∀ p∈(361,tabObj #[])::X.fix,p.1 < X.lR
 fx:∀ p∈X.fix,p.1≠361
 rv:X.lR < X.lV
 vs:X.lV < X.dS
structure PX.Inv (X:PX) (w:World) (i j k:Nat) (c:PS):Prop where
 seen:iY (aH X.f X.g) (aa X.f X.g) i c.kvs c.sl
 row:StrsAre c.vr ((rowAt (aa X.f X.g) j).map one)
 lev:IntsAre c.vv (lk (aa X.f X.g) k)
 dict:c.oD.IsDictOf (PySem.strKind PySem.Challenge.rw_tc0096_01.prog w) c.kvs
 tab:Tab ey c.ps.toList c.co
 sep:∀ p∈c.co++c.sl,p.1≠361∧(p.1 < X.lR∨X.dS < p.1)
 new:∀ p∈c.co,p∈X.co2∨∀ q∈X.fix,q.1 < p.1
section
variable {F:Fm} {pm:PM} {nx:Led}
theorem D8 (ok:F.Ok) {ts:List Expr} {k:Nat} {tp pos:Pos} {value:Expr} {xs:List Str} {Q:KF} (hn:namesOf ts=some xs) (h:(WW F 30).1 value pm nx fun v pm nx=>∃ l us vs n,v=.v (.ref l)∧(l,W.listOf vs.toArray n)∈nx∧AllIs us vs∧us.length=xs.length∧kQ F xs us pm nx (Q .next))
  (hs:swapsWithSole [.Tuple ts k tp] value pos.line F.env=pure false:=by rfl) (hw:swappedStores [.Tuple ts k tp] value F.env=pure none:=by rfl):GoF F (exec (.Assign [.Tuple ts k tp] value pos) F.env) pm nx Q:=by
 refine fun s P hR hP=>Assign_Tuple ((ar ok 30).1 _ _ _ _ h s _ hR fun v x _ _ s1 q hv hR1=>?_) hs hw
 obtain ⟨l,us,vs,n,rfl,hm,hus,hl,hst⟩:=q
 obtain rfl:=hv
 obtain ⟨e1,e2⟩:=kT F.env hn
 obtain ⟨m,os,Fr',N,ap,_,mk⟩:=ok.opc hR1
 refine kun_list Fr' N (News.isList N (apR hm)) ok.handled ?_ e2 fun h' F' N'=>mn ok hn hst _ hus _ _ (mk h' s1.toks _ F' N' ap) fun _ _ _ _ s2 h2 _ hR2=>hP _ _ _ _ _ h2 rfl hR2
 rw [e1, ← hl, ← hus.length,List.size_toArray]
end
theorem xU {g:Int→Int} {ys:List Value} {ns:List Int} {j:Nat} {t:Tok} (h:IntsAre ys ((ns.take j).map g)) (hj:j < ns.length):IntsAre (ys++[.int (g (ns.getD j 0)) t]) ((ns.take (j + 1)).map g):=by
 rw [List.take_add_one,List.getD_eq_getElem?_getD,List.getElem?_eq_getElem hj,List.map_append]
 exact IntsAre.append h (.cons _ _ .nil)
theorem cU {vs:List Value} {ns:List Int} (h:IntsAre vs ns) {j:Nat} {v:Value} (hv:vs[j]?=some v):(PV.i (ns.getD j 0)).Is v:=by
 have:=fX h j (by rw [← h.length];exact (List.getElem?_eq_some_iff.mp hv).1)
 rwa [List.getD_eq_getElem?_getD (l:=vs),hv] at this
noncomputable def PX.two (X:PX) (z:Nat):List Int:=[min (gY X.f X.g z) (ma X.f X.g z),max (gY X.f X.g z) (ma X.f X.g z)]
theorem AllIs.ofInts:∀ {vs:List Value} {ns:List Int},IntsAre vs ns→AllIs (ns.map .i) vs:=by
 intro z0 z1 zz
 induction zz with
 | nil =>
  exact .nil
 | cons _ t r ih =>
  exact .cons ⟨t,rfl⟩ ih
section
variable {C:Cx} {w:World} {D:Nat} {X:PX} {i z:Nat} {nx:Led}
theorem Ea (hC:C.Ok w S__law_painted D) (hD:4≤D) (H:X.Ok w) (hfx:∀ p∈X.fix,p∈nx) (hz:z∈five) {Q:KF}
  (h:Q .next (X.pm2 i z) nx):GoF (C.fm w S__law_painted) (exec (p3b.getD 0 (.Pass default)) (C.fm w S__law_painted).env) (X.pm1 i z) nx Q:=by
 have ok:=Cx.fmOk hC
 obtain ⟨t1,h1⟩:=nP H.kb hz
 obtain ⟨t2,h2⟩:=nP H.ka hz
 have hboth:IntsAre (X.vta++X.vtb) (fo X.f X.g):=IntsAre.append H.ia H.ib
 have hla:(ay X.g 5).1.length≤5:=gU X.g 5
 have hlb:(fo X.f X.g).length≤10:=by
  have:=gU X.f 5
  unfold fo;rw [List.length_append];lia
 have hle:(ay X.g 5).1.length≤(fo X.f X.g).length:=by unfold fo;rw [List.length_append];lia
 have m1:=hfx _ (.head _)
 have m2:=hfx _ (.tail _ (.head _))
 refine wd hC [Str.ofString "first",Str.ofString "last"] ⟨rfl,(aD rfl)⟩ ?_
 refine bc ok (bC ok (.v (.int (X.f z:Int) t1)) (hfx _ (.tail _ (.tail _ (.tail _ (.tail _ (.head _)))))) H.db rfl h1 rfl ?_)
 refine cN ok m2 H.ia.length (by lia) (iX fun _ _ t=>?_)
 refine hC.useR (.i (bis (ltI (fo X.f X.g) (X.f z)) (ay X.g 5).1.length (fo X.f X.g).length:Nat)) (d:=2) (by lia) (fun os=>rp (tl₀:=t) (apR m1) hboth (by lia) hle (Nat.le_refl _) (.inl ⟨rfl,rfl⟩) (fun s X=>kp_binds X (fun _=>rfl))) (fun t=>⟨t,rfl⟩) ?_
 refine cN ok m2 H.ia.length (by lia) ?_
 refine cN ok m2 H.ia.length (by lia) ?_
 refine bc ok (bC ok (.v (.int (X.g z:Int) t2)) (hfx _ (.tail _ (.tail _ (.tail _ (.head _))))) H.da rfl h2 rfl ?_)
 refine cN ok m2 H.ia.length (by lia) (tW fun _ _ t u=>?_)
 refine hC.useR (.i (bis (ltI (fo X.f X.g) (X.g z)) 0 (ay X.g 5).1.length:Nat)) (d:=2) (by lia) (fun os=>rp (lo:=0) (tl₀:=t) (apR m1) hboth (by lia) (Nat.zero_le _) hle (.inr ⟨u,rfl⟩) (fun s X=>kp_binds X (fun _=>rfl))) (fun t=>⟨t,rfl⟩) ?_
 exact ⟨rfl,h⟩
theorem JA (hC:C.Ok w S__law_painted D) {Q:KF} (h:∀ pm' nx',Sub (X.pm3 i z) pm'→(∀ p∈nx,p∈nx')→Q .next pm' nx'):GoF (C.fm w S__law_painted) (exec (p3b.getD 1 (.Pass default)) (C.fm w S__law_painted).env) (X.pm2 i z) nx Q:=by
 have ok:=Cx.fmOk hC
 refine D8 ok (xs:=[Str.ofString "dim",Str.ofString "bright"]) rfl (bF ok rfl ?_)
 refine bj ok (aD rfl) fun l1 x1 hx1 hl1=>?_
 refine Bc ok (.head _) (AllIs.ints (ns:=[gY X.f X.g z,ma X.f X.g z]) hx1) (by rw [hx1.length];exact (aD rfl)) fun l2 vs ns e hi hp hu hl2=>?_
 rw [ub hp hu] at hi
 replace hi:IntsAre vs (X.two z):=hi
 have hl:vs.length=2:=hi.length
 refine bu ok (oy:=none) [] (fun j=>.i ((X.two z).getD j 0)) (fun _:Unit=>(l2,W.listOf vs.toArray e)::(l1,W.listOf x1.toArray 0)::nx) (fun j ys _=>IntsAre ys (((X.two z).take j).map clamp)) () (cP ok (.head _)) trivial (fun j v hv=>cU hi hv) (fun j ys _ hj hys=>by rw [hys.length,List.length_map,List.length_take];lia) (fun _ _ _ _ p hp=>by rw [sgX hp];exact .head _) ⟨.nil,fun p hp=>hp⟩ (fun j ys _ hj hys κ okG Qy Qn hQy _=>?_) (fun ys _ E hys hE=>?_)
 ·refine rj okG rfl rfl (wj okG rfl rfl ?_)
  rw [G6]
  exact hQy _ _ _ () (fun y ⟨t,hy⟩=>hy▸xU hys (hi.length▸hj)) (fun p hp=>hp) trivial
 ·rw [hl] at hys
  refine ⟨E,[.i (aH X.f X.g z),.i (aa X.f X.g z)],ys,ys.length,rfl,.head _,AllIs.ofInts (ns:=[aH X.f X.g z,aa X.f X.g z]) hys,rfl,?_⟩
  exact h _ _ (eU (by kernel_rfl)) fun p hp=>.tail _ (.tail _ (.tail _ hp))
theorem my (hC:C.Ok w S__law_painted D) {f:Value} {xs:List Value} {d:Nat} {T:UInt64×UInt64×UInt64} {pm:PM} {a b c:Str} {Q:KU} (x y r:UInt64) (hT:T=(x,y,r)) (hd:d≤D) (h:∀ os:Led,ah w f xs [] d (os++nx) (xn (os++nx) T)) (hq:∀ nx',(∀ p∈nx,p∈nx')→kQ (C.fm w S__law_painted) [a,b,c] [.f x,.f y,.f r] pm nx' Q):GoV (C.fm w S__law_painted) (call f xs) pm nx fun v pm nx=>GL C w S__law_painted [a,b,c] v pm nx Q:=by
 refine hC.use hd fun os ap=>⟨os++nx,_,fun _ h=>h,h os,?_⟩
 rintro v nx' ⟨Dt,x',y',r',ta,tb,tc,rfl,rfl,l1,e⟩
 rw [hT] at e
 cases e
 refine ⟨.v (.ref Dt),(Dt,IA x y r ta tb tc)::nx,rfl,fun p hp=>?_,fun p hp q hq=>?_,Dt,[.f x,.f y,.f r],#[.float x ta,.float y tb,.float r tc],0,rfl,.head _,.cons ⟨ta,rfl⟩ (.cons ⟨tb,rfl⟩ (.cons ⟨tc,rfl⟩ .nil)),rfl,hq _ fun p hp=>.tail _ hp⟩
 ·rcases apX hp with hp | hp
  ·exact .tail _ (apL hp)
  ·rcases cnX hp with rfl | hp
   ·exact .head _
   ·exact .tail _ (apR hp)
 ·rcases cnX hq with rfl | hq
  ·exact Nat.ne_of_lt (l1 p (apL hp))
  ·exact ap p hp q hq
end
end Mine
end
section
namespace Mine
noncomputable def fr (a b:Int):UInt64:=Float64.ofFrac (decide (a < 0) !=decide (b < 0)) a.natAbs b.natAbs
noncomputable def scaled (k:Int) (x:UInt64):UInt64:=Float64.add (Float64.mul (Float64.ofInt k) x) (Float64.ofInt 1)
noncomputable def scN (k:Int) (x:UInt64):Int:=Flt.toInt Float64.truncOf (scaled k x)
noncomputable def scB (k:Int) (x:UInt64) (f:Int→Bool):Bool := !Float64.isNaN (scaled k x) && !Float64.isInf (scaled k x) && f ((scN k x).fdiv 2)
def Hc (k:Int) (x:UInt64) (v:Int):Prop:=Float64.isNaN (scaled k x)=false∧Float64.isInf (scaled k x)=false∧(scN k x).fdiv 2=v
noncomputable def nQ (h d b:Int):Int:=if d < b then 1000 * h.fmod 24 else 0
def fZ (h d b:Int) (D V H:UInt64):Prop:=Hc 8000 D (1000 * d)∧Hc 8000 V (1000 * b)∧∃ u,Hc 48000 H u∧u.fmod 24000=nQ h d b
noncomputable def Hd (li:UInt64):UInt64:=if (Float64.cmp (Float64.sub (Float64.ofInt 1) li) li==some .lt)=true then Float64.sub (Float64.ofInt 1) li else li
noncomputable def BF (b:Int):Int:=if 1 > b then 1 else b
noncomputable def fu {α:Type} (x:UInt64) (k:UInt64→α):α:=Nat.rec (motive:=fun _=>α) (k (UInt64.ofNat 0)) (fun n _=>k (UInt64.ofNat (n + 1))) x.toNat
theorem sQ {α:Type} (x:UInt64) (k:UInt64→α):fu x k=k x:=by
 have h:UInt64.ofNat x.toNat=x:=UInt64.ofNat_toNat
 unfold fu
 generalize hn:x.toNat=n at h ⊢
 cases n with
 | zero=>exact congrArg k h
 | succ n=>exact congrArg k h
noncomputable def He (h s:UInt64):Bool:=(Float64.cmp s 0==some Ordering.eq) || (!Float64.isNaN (Float64.mul h F6) && !Float64.isInf (Float64.mul h F6) && decide (¬ 2 ^ 1024 - 2 ^ 970≤(d6 h).natAbs))
noncomputable def BH (x y z:UInt64):Bool:=(Float64.cmp (aU x y z) (aK x y z)==some Ordering.eq) || (!Float64.isZero (Float64.sub (aK x y z) (aU x y z)) && !Float64.isZero (Float64.add (aK x y z) (aU x y z)) && !Float64.isZero (Float64.sub (Float64.sub 4611686018427387904 (aK x y z)) (aU x y z)))
noncomputable def BI (x y z:UInt64):Bool:=(Float64.cmp (aU x y z) (aK x y z)==some Ordering.eq) || (!Float64.isZero (Float64.sub (aK x y z) (aU x y z)) && !Float64.isZero (aK x y z))
noncomputable def rz (h d b:Int) (D V H:UInt64):Bool:=scB 8000 D (fun v=>v==1000 * d) && scB 8000 V (fun v=>v==1000 * b) && scB 48000 H (fun u=>u.fmod 24000==nQ h d b)
noncomputable def f3 {α:Type} (x:UInt64×UInt64×UInt64) (k:UInt64→UInt64→UInt64→α):α:=match x with
 | (a,b,c)=>fu a fun a=>fu b fun b=>fu c fun c=>k a b c
theorem FQ {α:Type} (x:UInt64×UInt64×UInt64) (k:UInt64→UInt64→UInt64→α):f3 x k=k x.1 x.2.1 x.2.2:=by
 obtain ⟨a,b,c⟩:=x
 unfold f3
 dsimp only
 rw [sQ,sQ,sQ]
noncomputable def Eb (h d b:Int):Bool:=f3 (fr h 24,fr (b - d) (BF b),fr b 4) fun x1 x2 x3=>He x1 x2 && f3 (C6 x1 x2 x3) fun r g l=>BH r g l &&
 f3 (wM r g l) fun hu li sh=>fu (Float64.mul sh (Hd li)) fun z=>fu (Float64.sub li z) fun D=>fu (Float64.add li z) fun V=>rz h d b D V hu
noncomputable def mn1 (d b:Int):Int:=if (8 - d - b) < (d + b) then 8 - d - b else d + b
noncomputable def wO (h d b:Int):Bool:=f3 (fr h 24,fr (d + b) 8,fr (b - d) (BF (mn1 d b))) fun x1 x2 x3=>f3 (D7 x1 x2 x3) fun r g l=>BI r g l &&
 f3 (wN r g l) fun hu sh V=>fu (Float64.sub V (Float64.mul V sh)) fun D=>rz h d b D V hu
noncomputable def pairsDB:List (Int×Int):=[(0,0),(0,1),(0,2),(0,3),(0,4),(1,1),(1,2),(1,3),(1,4),(2,2),(2,3),(2,4),(3,3),(3,4),(4,4)]
noncomputable def av (h:Int):Bool:=pairsDB.all fun p=>if (h + h.fdiv 24).fmod 2=1 then Eb h p.1 p.2 else wO h p.1 p.2
theorem o0:av 0=true:=by decide +kernel
theorem o1:av 1=true:=by decide +kernel
theorem o2:av 2=true:=by decide +kernel
theorem o3:av 3=true:=by decide +kernel
theorem o4:av 4=true:=by decide +kernel
theorem o5:av 5=true:=by decide +kernel
theorem o6:av 6=true:=by decide +kernel
theorem o7:av 7=true:=by decide +kernel
theorem o8:av 8=true:=by decide +kernel
theorem o9:av 9=true:=by decide +kernel
theorem o10:av 10=true:=by decide +kernel
theorem o11:av 11=true:=by decide +kernel
theorem o12:av 12=true:=by decide +kernel
theorem o13:av 13=true:=by decide +kernel
theorem o14:av 14=true:=by decide +kernel
theorem o15:av 15=true:=by decide +kernel
theorem o16:av 16=true:=by decide +kernel
theorem o17:av 17=true:=by decide +kernel
theorem o18:av 18=true:=by decide +kernel
theorem o19:av 19=true:=by decide +kernel
theorem o20:av 20=true:=by decide +kernel
theorem o21:av 21=true:=by decide +kernel
theorem o22:av 22=true:=by decide +kernel
theorem o23:av 23=true:=by decide +kernel
theorem o24:av 24=true:=by decide +kernel
theorem o25:av 25=true:=by decide +kernel
theorem o26:av 26=true:=by decide +kernel
theorem o27:av 27=true:=by decide +kernel
theorem o28:av 28=true:=by decide +kernel
theorem o29:av 29=true:=by decide +kernel
theorem o30:av 30=true:=by decide +kernel
theorem o31:av 31=true:=by decide +kernel
theorem o32:av 32=true:=by decide +kernel
theorem o33:av 33=true:=by decide +kernel
theorem o34:av 34=true:=by decide +kernel
theorem o35:av 35=true:=by decide +kernel
theorem o36:av 36=true:=by decide +kernel
theorem o37:av 37=true:=by decide +kernel
theorem o38:av 38=true:=by decide +kernel
theorem o39:av 39=true:=by decide +kernel
theorem o40:av 40=true:=by decide +kernel
theorem o41:av 41=true:=by decide +kernel
theorem o42:av 42=true:=by decide +kernel
theorem o43:av 43=true:=by decide +kernel
theorem o44:av 44=true:=by decide +kernel
theorem o45:av 45=true:=by decide +kernel
theorem o46:av 46=true:=by decide +kernel
theorem o47:av 47=true:=by decide +kernel
theorem o48:av 48=true:=by decide +kernel
theorem o49:av 49=true:=by decide +kernel
theorem o50:av 50=true:=by decide +kernel
theorem o51:av 51=true:=by decide +kernel
theorem o52:av 52=true:=by decide +kernel
theorem o53:av 53=true:=by decide +kernel
theorem o54:av 54=true:=by decide +kernel
theorem o55:av 55=true:=by decide +kernel
theorem o56:av 56=true:=by decide +kernel
theorem o57:av 57=true:=by decide +kernel
theorem o58:av 58=true:=by decide +kernel
theorem o59:av 59=true:=by decide +kernel
theorem o60:av 60=true:=by decide +kernel
theorem o61:av 61=true:=by decide +kernel
theorem o62:av 62=true:=by decide +kernel
theorem o63:av 63=true:=by decide +kernel
theorem o64:av 64=true:=by decide +kernel
theorem o65:av 65=true:=by decide +kernel
theorem o66:av 66=true:=by decide +kernel
theorem o67:av 67=true:=by decide +kernel
theorem o68:av 68=true:=by decide +kernel
theorem o69:av 69=true:=by decide +kernel
theorem o70:av 70=true:=by decide +kernel
theorem o71:av 71=true:=by decide +kernel
theorem hst {P:Nat→Prop} {n:Nat} (h:∀ x < n,P x) (q:P n):∀ x < n + 1,P x:=fun x hx=>(Nat.lt_or_eq_of_le (Nat.le_of_lt_succ hx)).elim (h x) fun e=>e▸q
theorem Ec:∀ h:Nat,h < 72→av (h:Int)=true:=hst (P:=fun h:Nat=>av (h:Int)=true) (hst (hst (hst (hst (hst (hst (hst (hst (hst (hst (hst (hst (hst (hst (hst (hst (hst (hst (hst (hst (hst (hst (hst (hst (hst (hst (hst (hst (hst (hst (hst (hst (hst (hst (hst (hst (hst (hst (hst (hst (hst (hst (hst (hst (hst (hst (hst (hst (hst (hst (hst (hst (hst (hst (hst (hst (hst (hst (hst (hst (hst (hst (hst (hst (hst (hst (hst (hst (hst (hst (hst (fun x hx=>absurd hx (Nat.not_lt_zero x)) o0) o1) o2) o3) o4) o5) o6) o7) o8) o9) o10) o11) o12) o13) o14) o15) o16) o17) o18) o19) o20) o21) o22) o23) o24) o25) o26) o27) o28) o29) o30) o31) o32) o33) o34) o35) o36) o37) o38) o39) o40) o41) o42) o43) o44) o45) o46) o47) o48) o49) o50) o51) o52) o53) o54) o55) o56) o57) o58) o59) o60) o61) o62) o63) o64) o65) o66) o67) o68) o69) o70) o71
end Mine
end
section
namespace Mine
theorem JB {d b:Int} (h0:0≤d) (h1:d≤b) (h2:b≤4):(d,b)∈pairsDB:=by
 rcases (by lia:d=0∨d=1∨d=2∨d=3∨d=4) with rfl | rfl | rfl | rfl | rfl <;> rcases (by lia:b=0∨b=1∨b=2∨b=3∨b=4) with rfl | rfl | rfl | rfl | rfl <;> first | decide | lia
theorem Hf {h d b:Int} (h0:0≤h) (h72:h < 72) (hd0:0≤d) (hdb:d≤b) (hb4:b≤4):(if (h + h.fdiv 24).fmod 2=1 then Eb h d b else wO h d b)=true:=by
 have:=Ec h.toNat (by lia)
 rw [Int.toNat_of_nonneg h0] at this
 unfold av at this
 replace this:=List.all_eq_true.mp this _ (JB hd0 hdb hb4)
 dsimp only at this
 exact this
theorem Ed {h s:UInt64} (e:He h s=true):Ao h s:=by
 unfold He at e
 simp only [Bool.or_eq_true,Bool.and_eq_true,Bool.not_eq_true',decide_eq_true_eq] at e
 rcases e with e | ⟨⟨e1,e2⟩,e3⟩
 ·exact .inl e
 ·exact .inr ⟨e1,e2,e3⟩
theorem BJ {x y z:UInt64} (e:BH x y z=true):rx x y z:=by
 unfold BH at e
 simp only [Bool.or_eq_true,Bool.and_eq_true,Bool.not_eq_true'] at e
 rcases e with e | ⟨⟨e1,e2⟩,e3⟩
 ·exact .inl e
 ·exact .inr ⟨e1,e2,e3⟩
theorem BK {x y z:UInt64} (e:BI x y z=true):ry x y z:=by
 unfold BI at e
 simp only [Bool.or_eq_true,Bool.and_eq_true,Bool.not_eq_true'] at e
 rcases e with e | ⟨e1,e2⟩
 ·exact .inl e
 ·exact .inr ⟨e1,e2⟩
theorem pz {h d b:Int} {D V H:UInt64} (e:rz h d b D V H=true):fZ h d b D V H:=by
 unfold rz scB at e
 simp only [Bool.and_eq_true,Bool.not_eq_true',beq_iff_eq] at e
 obtain ⟨⟨⟨⟨a1,a2⟩,a3⟩,⟨b1,b2⟩,b3⟩,⟨c1,c2⟩,c3⟩:=e
 exact ⟨⟨a1,a2,a3⟩,⟨b1,b2,b3⟩,_,⟨c1,c2,rfl⟩,c3⟩
theorem Hg {h d b:Int} (e:Eb h d b=true):Ao (fr h 24) (fr (b - d) (BF b))∧∃ r g l,C6 (fr h 24) (fr (b - d) (BF b)) (fr b 4)=(r,g,l)∧rx r g l∧∃ hu li sh,wM r g l=(hu,li,sh)∧fZ h d b (Float64.sub li (Float64.mul sh (Hd li))) (Float64.add li (Float64.mul sh (Hd li))) hu:=by
 unfold Eb at e
 simp only [FQ,sQ,Bool.and_eq_true] at e
 obtain ⟨e1,e2,e3⟩:=e
 exact ⟨Ed e1,_,_,_,rfl,BJ e2,_,_,_,rfl,pz e3⟩
theorem Ee {h d b:Int} (e:wO h d b=true):∃ r g l,D7 (fr h 24) (fr (d + b) 8) (fr (b - d) (BF (mn1 d b)))=(r,g,l)∧ry r g l∧∃ hu sh V,wN r g l=(hu,sh,V)∧fZ h d b (Float64.sub V (Float64.mul V sh)) V hu:=by
 unfold wO at e
 simp only [FQ,sQ,Bool.and_eq_true] at e
 obtain ⟨e2,e3⟩:=e
 exact ⟨_,_,_,rfl,BK e2,_,_,_,rfl,pz e3⟩
end Mine
end
section
namespace Mine
noncomputable def PX.pm4 (X:PX) (i z:Nat) (D V Hu:UInt64):PM:=(Str.ofString "dark",.f D)::(Str.ofString "level",.f V)::(Str.ofString "hue",.f Hu)::X.pm3 i z
theorem wQ {x:Int}:(if (1:Int) > x then 1 else x)≠0:=by split <;> lia
theorem BL {h:Int} (h0:0≤h) (h1:h < 72):okD h:=ff (by lia)
section
variable {C:Cx} {w:World} {D:Nat} {X:PX} {i z:Nat} {nx:Led}
theorem Ef (hC:C.Ok w S__law_painted D) (hD:8≤D) (H:X.Ok w) (hfx:∀ p∈X.fix,p∈nx) (hi:i < 5) {Q:KF}
  (hQ:∀ Da V Hu pm' nx',fZ (X.hs.getD i 0) (aH X.f X.g z) (aa X.f X.g z) Da V Hu→Sub (X.pm4 i z Da V Hu) pm'→(∀ p∈nx,p∈nx')→Q .next pm' nx'):GoF (C.fm w S__law_painted) (exec (p3b.getD 2 (.Pass default)) (C.fm w S__law_painted).env) (X.pm3 i z) nx Q:=by
 have ok:=Cx.fmOk hC
 obtain ⟨hd0,hdb,hb4⟩:=xI X.f X.g z
 have hi5:i < X.hs.length:=H.h5▸hi
 have hlen:X.vh.length=5:=H.hh.length.trans H.h5
 have hv:=H.hr (X.hs.getD i 0) (by rw [List.getD_eq_getElem?_getD,List.getElem?_eq_getElem hi5];exact List.getElem_mem _)
 have ho:=Hf hv.1 hv.2 hd0 hdb hb4
 have hit:∀ (nx':Led) (a:PySem.Expr) (s:PySem.Expr) (pm:PM) (Q:KV),(∀ p∈nx,p∈nx')→bO s=true→Q (.i (X.hs.getD i 0)) pm nx'→ow (C.fm w S__law_painted) a s (.v (.ref X.lh)) (.i (i:Int)) pm nx' Q:=fun nx' a s pm Q hn hs q=>aG ok (.i (X.hs.getD i 0)) (hn _ (hfx _ (.tail _ (.tail _ (.tail _ (.tail _ (.tail _ (.head _)))))))) rfl (Int.natCast_nonneg _) (by rw [hlen];exact hi) (by rw [hlen];decide) (fX H.hh i hi5) q hs
 generalize X.hs.getD i 0=hue at hit ho hv hQ
 refine aq ok (hit _ _ _ _ _ (fun _ h=>h) rfl (hit _ _ _ _ _ (fun _ h=>h) rfl ?_))
 refine And.intro ⟨by decide,by decide⟩ (And.intro (by decide) (And.intro (fun hp=>?_) fun hp=>?_))
 ·rw [if_pos (eq_of_beq hp)] at ho
  obtain ⟨ok1,r,g,bl,e1,ok2,hu,li,sh,e2,hP⟩:=Hg ho
  refine iU hC rfl (bc ok (hit _ _ _ _ _ (fun _ h=>h) rfl (And.intro ⟨BL hv.1 hv.2,by decide⟩ ?_)))
  refine rj ok rfl rfl (And.intro ⟨ff (by lia),wQ⟩ (And.intro ⟨ff (by lia),by decide⟩ (iX fun t1 t2 t3=>?_)))
  refine my hC r g bl e1 (d:=2) (by lia) (fun os=>BD ok1) fun n1 hn1=>?_
  refine iU hC rfl (bc ok (iX fun t4 t5 t6=>?_))
  refine my hC hu li sh e2 (d:=2) (by lia) (fun os=>xS ok2) fun n2 hn2=>?_
  refine wd hC [Str.ofString "dark",Str.ofString "level"] ⟨rfl,(aD rfl)⟩ (And.intro (cb (by decide)) ?_)
  refine wk ok rfl rfl (And.intro (cb (by decide)) (wk ok rfl rfl ⟨rfl,?_⟩))
  exact hQ _ _ _ _ _ hP (eU (by kernel_rfl)) fun p hp=>hn2 p (hn1 p hp)
 ·rw [if_neg (ne_of_beq_false hp)] at ho
  obtain ⟨r,g,bl,e1,ok2,hu,sh,V,e2,hP⟩:=Ee ho
  refine iU hC rfl (bc ok (hit _ _ _ _ _ (fun _ h=>h) rfl (And.intro ⟨BL hv.1 hv.2,by decide⟩ (And.intro ⟨ff (by lia),by decide⟩ ?_))))
  refine wj ok rfl rfl (rj ok rfl rfl (And.intro ⟨ff (by lia),wQ⟩ (iX fun t1 t2 t3=>?_)))
  refine my hC r g bl e1 (d:=6) (by lia) (fun os=>BE) fun n1 hn1=>?_
  refine iU hC rfl (bc ok (iX fun t4 t5 t6=>?_))
  refine my hC hu sh V e2 (d:=2) (by lia) (fun os=>xT ok2) fun n2 hn2=>?_
  exact hQ _ _ _ _ _ hP (eU (by kernel_rfl)) fun p hp=>hn2 p (hn1 p hp)
end
end Mine
end
section
namespace Mine
theorem PX.apart {X:PX} {w:World} {i j k:Nat} {c:PS} (H:X.Ok w) (I:X.Inv w i j k c):∀ p∈(361,tabObj c.ps)::(c.co++(c.sl++X.fix)),p.1 < X.lR∨X.dS < p.1:=fun p hp=>by
 rcases cnX hp with rfl | hp
 ·exact .inl (H.old (361,tabObj #[]) (.head _))
 ·rcases apX hp with hp | hp
  ·exact (I.sep p (apL hp)).2
  ·rcases apX hp with hp | hp
   ·exact (I.sep p (apR hp)).2
   ·exact .inl (H.old p (.tail _ hp))
theorem PX.ne {X:PX} {w:World} (H:X.Ok w) {a:Addr} (h:a < X.lR∨X.dS < a):a≠X.lR∧a≠X.lV∧a≠X.dS:=by
 have h1:=H.rv
 have h2:=H.vs
 rcases h with h | h
 ·exact ⟨Nat.ne_of_lt h,Nat.ne_of_lt (Nat.lt_trans h h1),Nat.ne_of_lt (Nat.lt_trans h (Nat.lt_trans h1 h2))⟩
 ·exact ⟨Nat.ne_of_gt (Nat.lt_trans (Nat.lt_trans h1 h2) h),Nat.ne_of_gt (Nat.lt_trans h2 h),Nat.ne_of_gt h⟩
theorem PX.all {X:PX} {c:PS} {P:Addr×Obj→Prop} (h1:P (X.lR,W.listOf c.vr.toArray c.nr)) (h2:P (X.lV,W.listOf c.vv.toArray c.nv)) (h3:P (X.dS,c.oD)) (h4:∀ p∈(361,tabObj c.ps)::(c.co++(c.sl++X.fix)),P p):∀ p∈X.led c,P p:=fun p hp=>by
 rcases cnX hp with rfl | hp
 ·exact h1
 ·rcases cnX hp with rfl | hp
  ·exact h2
  ·rcases cnX hp with rfl | hp
   ·exact h3
   ·exact h4 p hp
section
variable {F:Fm} {pm:PM} {nx:Led}
theorem JC {st:Stmt} {σ:Type} (ok:F.Ok) (pmJ:σ→PM) (nxJ:Led) (P:σ→Prop) {Q:KF} (h:∀ Q':KF,(∀ c pm' nx',P c→Sub (pmJ c) pm'→(∀ p∈nxJ,p∈nx')→Q' .next pm' nx')→GoF F (exec st F.env) pm nx Q') (h2:∀ c,P c→Q .next (pmJ c) nxJ):GoF F (exec st F.env) pm nx Q :=
 fun s T hR hT=>h (fun f pm' nx'=>f=.next∧∃ c,P c∧Sub (pmJ c) pm'∧∀ p∈nxJ,p∈nx') (fun c _ _ h0 h1 h2=>⟨rfl,c,h0,h1,h2⟩) s T hR fun _ _ _ _ _ q hf hR'=>by
  obtain ⟨rfl,c,h0,h3,h4⟩:=q
  exact hT _ _ _ _ _ (h2 c h0) hf (ok.sub hR' h3 h4)
end
section
variable {C:Cx} {w:World} {D:Nat} {X:PX} {i z:Nat} {c:PS}
theorem JD (hC:C.Ok w S__law_painted D) (H:X.Ok w) (I:X.Inv w i i i c) (hi:i < 5) (hz:five[i]?=some z) {its:Led} (hoff:∀ p∈X.led c,∀ q∈its,p.1≠q.1) {Da V Hu:UInt64} (hP:fZ (X.hs.getD i 0) (aH X.f X.g z) (aa X.f X.g z) Da V Hu) {Q:KF}
  (hQ:∀ c':PS,X.Inv w (i + 1) i i c'→(∀ p∈X.led c',∀ q∈its,p.1≠q.1)→Q .next (X.pm4 i z Da V Hu) (its++X.led c')):GoF (C.fm w S__law_painted) (exec (p3b.getD 3 (.Pass default)) (C.fm w S__law_painted).env) (X.pm4 i z Da V Hu) (its++X.led c) Q:=by
 have ok:=Cx.fmOk hC
 obtain ⟨⟨p1,p2,p3⟩,⟨p4,p5,p6⟩, -⟩:=hP
 refine DK ok (And.intro (cb (by decide)) (And.intro (cb (by decide)) (q7 ok rfl p1 p2 (And.intro ⟨by decide,by decide⟩ ?_))))
 refine And.intro (cb (by decide)) (And.intro (cb (by decide)) (q7 ok rfl p4 p5 (And.intro ⟨by decide,by decide⟩ ?_)))
 refine bj ok (aD rfl) fun lN xs hxs hlN=>?_
 refine DL ok (.tail _ (apR (.tail _ (.tail _ (.head _))))) I.dict rfl (Nat.le_trans (Bz I.seen (Nat.le_of_lt hi)) (by decide)) fun z' o' hz' ho'=>?_
 have e1:Int.fdiv (Flt.toInt Float64.truncOf (Float64.add (Float64.mul (Float64.ofInt 8000) Da) (Float64.ofInt 1))) 2=1000 * aH X.f X.g z:=p3
 have e2:Int.fdiv (Flt.toInt Float64.truncOf (Float64.add (Float64.mul (Float64.ofInt 8000) V) (Float64.ofInt 1))) 2=1000 * aa X.f X.g z:=p6
 rw [e1,e2] at hxs
 obtain ⟨a,b,⟨ta,rfl⟩,⟨tb,rfl⟩⟩:=AllIs.two hxs
 obtain rfl:=hz'
 have hdN:X.dS < lN:=hlN (X.dS,c.oD) (apR (.tail _ (.tail _ (.head _))))
 refine ⟨its++X.led { c with kvs:=stored c.kvs (one z) (.ref lN),oD:=o',sl:=(lN,W.listOf #[Value.int (1000 * aH X.f X.g z) ta,.int (1000 * aa X.f X.g z) tb] 0)::c.sl },?_,hQ _ ⟨xJ I.seen hz,I.row,I.lev,ho',I.tab,fun p hp=>?_,I.new⟩ fun p hp q hq=>?_⟩
 ·refine (Chg.rest fun p hp=>⟨.tail _ (apL hp),Ne.symm (hoff (X.dS,c.oD) (.tail _ (.tail _ (.head _))) p hp)⟩).app (.old (.tail _ (apR (.head _))) (Nat.ne_of_lt (Nat.lt_trans H.rv H.vs)) (.old (.tail _ (apR (.tail _ (.head _)))) (Nat.ne_of_lt H.vs) (.new (.rest fun p hp=>?_))))
  have:p=(lN,W.listOf #[Value.int (1000 * aH X.f X.g z) ta,.int (1000 * aa X.f X.g z) tb] 0)∨p∈(361,tabObj c.ps)::(c.co++(c.sl++X.fix)):=by
   rcases cnX hp with rfl | hp
   ·exact .inr (.head _)
   ·rcases apX hp with hp | hp
    ·exact .inr (.tail _ (apL hp))
    ·rcases cnX hp with rfl | hp
     ·exact .inl rfl
     ·exact .inr (.tail _ (apR hp))
  rcases this with rfl | hp
  ·exact ⟨.head _,Nat.ne_of_gt hdN⟩
  ·exact ⟨.tail _ (apR (.tail _ (.tail _ (.tail _ hp)))),(X.ne H (X.apart H I p hp)).2.2⟩
 ·rcases apX hp with hp | hp
  ·exact I.sep p (apL hp)
  ·rcases cnX hp with rfl | hp
   ·exact ⟨Nat.ne_of_gt (Nat.lt_trans (Nat.lt_trans (H.old (361,tabObj #[]) (.head _)) (Nat.lt_trans H.rv H.vs)) hdN),.inr hdN⟩
   ·exact I.sep p (apR hp)
 ·revert hp p
  refine PX.all (hoff _ (.head _) q hq) (hoff _ (.tail _ (.head _)) q hq) (hoff (X.dS,c.oD) (.tail _ (.tail _ (.head _))) q hq) fun p hp=>?_
  rcases cnX hp with rfl | hp
  ·exact hoff _ (.tail _ (.tail _ (.tail _ (.head _)))) q hq
  ·rcases apX hp with hp | hp
   ·exact hoff p (.tail _ (.tail _ (.tail _ (.tail _ (apL hp))))) q hq
   ·rcases cnX hp with rfl | hp
    ·exact Nat.ne_of_gt (hlN q (apL hq))
    ·exact hoff p (.tail _ (.tail _ (.tail _ (.tail _ (apR hp))))) q hq
theorem JE (hC:C.Ok w S__law_painted D) (hD:9≤D) (H:X.Ok w) (hi:i < 5) (hz:five[i]?=some z) {j k:Nat} (I:X.Inv w (i + 1) j k c) {nx:Led} (hnx:∀ p∈X.led c,p∈nx) {Da V Hu:UInt64} (hP:fZ (X.hs.getD i 0) (aH X.f X.g z) (aa X.f X.g z) Da V Hu) {Q:KF}
  (hQ:∀ nx',(∀ p∈nx,p∈nx')→Q .next (X.pm4 i z Da V Hu) nx'):GoF (C.fm w S__law_painted) (exec (p3b.getD 4 (.Pass default)) (C.fm w S__law_painted).env) (X.pm4 i z Da V Hu) nx Q:=by
 have ok:=Cx.fmOk hC
 obtain ⟨-, -, u,⟨p7,p8,p9⟩,p10⟩:=hP
 have hfx:∀ p∈X.fix,p∈nx:=fun p hp=>hnx p (.tail _ (.tail _ (.tail _ (.tail _ (apR (apR hp))))))
 have hi5:i < X.hs.length:=H.h5▸hi
 have hlen:X.vh.length=5:=H.hh.length.trans H.h5
 obtain ⟨lN,ta,tb,hat,hmem⟩:=dW I.seen (x:=z) (by rw [ba hz];exact apR (.head _))
 have hm:(lN,W.listOf #[Value.int (1000 * aH X.f X.g z) ta,.int (1000 * aa X.f X.g z) tb] 0)∈nx:=hnx _ (.tail _ (.tail _ (.tail _ (.tail _ (apR (apL hmem))))))
 refine aq ok (bC ok (.v (.ref lN)) (hnx _ (.tail _ (.tail _ (.head _)))) I.dict rfl hat rfl ?_)
 refine And.intro (cb (by decide)) (And.intro (cb (by decide)) (q7 ok rfl p7 p8 (And.intro ⟨by decide,by decide⟩ (And.intro (by decide) ?_))))
 refine bj ok (aD rfl) fun l1 x1 hx1 hl1=>?_
 refine nz ok (vs:=[Value.int (1000 * aH X.f X.g z) ta,.int (1000 * aa X.f X.g z) tb]) (.tail _ hm) (.head _) (by rw [hx1.length];exact (aD rfl)) fun l2 hl2=>?_
 refine And.intro (IntMulOk.of_left (by decide +kernel)) (And.intro (IntMulOk.of_left (by decide +kernel)) ?_)
 refine I4 ok (.i (nQ (X.hs.getD i 0) (aH X.f X.g z) (aa X.f X.g z))) (ny ok (And.intro (fun hb=>?_) fun hb=>?_)) ?_
 ·refine aG ok (.i (X.hs.getD i 0)) (.tail _ (.tail _ (hfx _ (.tail _ (.tail _ (.tail _ (.tail _ (.tail _ (.head _))))))))) rfl (Int.natCast_nonneg _) (by rw [hlen];exact hi) (by rw [hlen];decide) (fX H.hh i hi5) (And.intro (by decide) (And.intro (IntMulOk.of_left (by decide +kernel)) ⟨?_,eU (by kernel_rfl),fun _ h=>h⟩))
  unfold nQ
  rw [if_pos (of_decide_eq_true hb)]
 ·refine ⟨?_,eU (by kernel_rfl),fun _ h=>h⟩
  unfold nQ
  rw [if_neg (of_decide_eq_false hb)]
 refine bj ok (aD rfl) fun l3 x3 hx3 hl3=>?_
 have e9:(Int.fdiv (Flt.toInt Float64.truncOf (Float64.add (Float64.mul (Float64.ofInt 48000) Hu) (Float64.ofInt 1))) 2).fmod 24000=nQ (X.hs.getD i 0) (aH X.f X.g z) (aa X.f X.g z):=(congrArg (fun x:Int=>x.fmod 24000) p9).trans p10
 refine GS ok hC (.tail _ (.head _)) (.head _) (ns:=[1000 * aH X.f X.g z,1000 * aa X.f X.g z,nQ (X.hs.getD i 0) (aH X.f X.g z) (aa X.f X.g z)]) (.cons _ _ (.cons _ _ (e9▸AllIs.ints (ns:=[_]) hx1))) (AllIs.ints (ns:=[_,_,_]) hx3) hD ?_
 rw [decide_eq_true rfl]
 exact And.intro nofun fun _=>hQ _ fun p hp=>.tail _ (.tail _ (.tail _ hp))
structure PFr (C:Cx):Prop where
 cl:C.cl=cellsFrom (C.L + 1) S__law_painted.names []
 cn:C.cn=Str.ofString "_law_painted"
 cd:C.ccd=.ref 363
theorem PFr.env (h:PFr C):(C.fm w S__law_painted).env=envX C.cn S__law_painted C.L C.a C.ccd (cellsFrom (C.L + 1) S__law_painted.names []):=h.cl▸rfl
theorem PFr.seen (h:PFr C):(C.fm w S__law_painted).cell (Str.ofString "seen")=some (C.L + 1 + 1 + 1 + 1):=(congrArg (List.lookup _) h.cl).trans rfl
theorem BM {os:Led} {b d:Nat→Int} {n y:Nat} (hy:y∈five.take n) {kvs:List (Str×Value)} {sl nx:Led} (hs:iY d b n kvs sl) {oD oc:Obj} {dS kf c':Addr} {vs1:Array Value} {t1:Tok} {pmv ctv:Value} (hoD:oD.IsDictOf (PySem.strKind PySem.Challenge.rw_tc0096_01.prog w) kvs) (hfr:PFr C) {pm:PM} (hcell:(C.fm w S__law_painted).CellIn pm os) (hpm:look pm (Str.ofString "seen")=some (.v (.ref dS)))
  (h1:(kf,kla_obj (Str.ofString "<lambda>") ey wD wF wG [(Str.ofString "seen",C.L + 1 + 1 + 1 + 1)] pmv c' ctv)∈nx) (h2:(c',oc)∈nx) (hdc:oc.data=.fields vs1) (hvc:vs1[1]?=some (.str ey t1)) (h3:(dS,oD)∈nx) (h4:∀ p∈sl,p∈nx) (u:Tok):KeyIs w kf (os++nx) (.str (one y) u) (1000 * b y):=by
 obtain ⟨o9,v9,m9,d9,e9⟩:=hcell _ _ _ hpm hfr.seen
 obtain rfl:=e9
 obtain ⟨lc,ta,tb,h5,h6⟩:=dW hs hy
 exact ⟨BA (apR h1) (apR h2) hdc hvc (apL m9) d9 (apR h3) hoD h5 (apR (h4 _ h6))⟩
theorem JF (hC:C.Ok w S__law_painted D) (hD:6≤D) (hfr:PFr C) (H:X.Ok w) (hi:i < 5) (hz:five[i]?=some z) (I:X.Inv w (i + 1) i i c) {its:Led} (hoff:∀ p∈X.led c,∀ q∈its,p.1≠q.1) {Q:KV}
  (hQ:∀ c':PS,X.Inv w (i + 1) (i + 1) i c'→(∀ p∈X.led c',∀ q∈its,p.1≠q.1)→Q (.v .none) (X.pm1 i z) (its++X.led c')):GoV (C.fm w S__law_painted) (eval p3c (C.fm w S__law_painted).env) (X.pm1 i z) (its++X.led c) Q:=by
 have ok:=Cx.fmOk hC
 have hgz:five.getD i 0=z:=by rw [List.getD_eq_getElem?_getD,hz];rfl
 have mI:∀ p∈X.led c,p∈its++X.led c:=fun p hp=>apR hp
 have h361:(361:Nat) < X.lR:=H.old (361,tabObj #[]) (.head _)
 have hlR:=h361
 have n1:∀ p∈its++(X.lR,W.listOf c.vr.toArray c.nr)::(X.lV,W.listOf c.vv.toArray c.nv)::(X.dS,c.oD)::(c.sl++X.fix),p∈its++X.led c∧p.1≠361:=fun p hp=>by
  rcases apX hp with hp | hp
  ·exact ⟨apL hp,Ne.symm (hoff (361,tabObj c.ps) (.tail _ (.tail _ (.tail _ (.head _)))) p hp)⟩
  ·rcases cnX hp with rfl | hp
   ·exact ⟨mI _ (.head _),Nat.ne_of_gt h361⟩
   ·rcases cnX hp with rfl | hp
    ·exact ⟨mI _ (.tail _ (.head _)),Nat.ne_of_gt (Nat.lt_trans h361 H.rv)⟩
    ·rcases cnX hp with rfl | hp
     ·exact ⟨mI _ (.tail _ (.tail _ (.head _))),Nat.ne_of_gt (Nat.lt_trans h361 (Nat.lt_trans H.rv H.vs))⟩
     ·refine ⟨mI _ (.tail _ (.tail _ (.tail _ (.tail _ (apR hp))))),?_⟩
      exact (apX hp).elim (fun hp=>(I.sep p (apR hp)).1) (H.fx p)
 refine nJ ok ?_
 refine A7 hC (q:=ey) (codes:=c.co) (X:=its++(X.lR,W.listOf c.vr.toArray c.nr)::(X.lV,W.listOf c.vv.toArray c.nv)::(X.dS,c.oD)::(c.sl++X.fix)) hfr.cd (sI hC.X) rfl (by rw [hfr.env];rfl) (by rw [hfr.env,hfr.cn]) I.tab (mI _ (.tail _ (.tail _ (.tail _ (.head _))))) (fun p hp=>⟨mI _ (.tail _ (.tail _ (.tail _ (.tail _ (apL hp))))),(I.sep p (apL hp)).1⟩) n1 fun kf c' oc vs1 t1 pmv ctv ps2 co2 hTab2 hc' hdc hvc hlf hcd2=>?_
 refine wi fun t u v=>?_
 have hlen:c.vr.length=i:=by rw [I.row.length,List.length_map,bT]
 have hrow:StrsAre (kl_ins c.vr (bis (ltI ((rowAt (aa X.f X.g) i).map fun y=>1000 * aa X.f X.g y) (1000 * aa X.f X.g z)) 0 ((rowAt (aa X.f X.g) i).map fun y=>1000 * aa X.f X.g y).length:Nat) (.str (one z) u)) ((rowAt (aa X.f X.g) (i + 1)).map one):=by
  have hle:=(a5 (ltI ((rowAt (aa X.f X.g) i).map fun y=>1000 * aa X.f X.g y) (1000 * aa X.f X.g z)) (Nat.zero_le ((rowAt (aa X.f X.g) i).map fun y=>1000 * aa X.f X.g y).length)).2
  rw [List.length_map,bT] at hle ⊢
  rw [mx _ (by rw [hlen];exact hle),rowAt,hgz,bT]
  exact sM _ _ _ I.row
 have hbase:∀ q∈X.fix,q∈X.led c:=fun q hq=>.tail _ (.tail _ (.tail _ (.tail _ (apR (apR hq)))))
 have hsep:∀ p∈co2++c.sl,p.1≠361∧(p.1 < X.lR∨X.dS < p.1):=fun p hp=>by
  rcases apX hp with hp | hp
  ·rcases (hcd2 p hp).2 with h | h
   ·exact I.sep p (apL h)
   ·exact ⟨(hcd2 p hp).1,.inr (h _ (mI (X.dS,c.oD) (.tail _ (.tail _ (.head _)))))⟩
  ·exact I.sep p (apR hp)
 have I2:X.Inv w (i + 1) (i + 1) i { c with vr:=_,nr:=c.nr + 1,ps:=ps2,co:=co2 }:=⟨I.seen,hrow,I.lev,I.dict,hTab2,hsep,fun p hp=>(hcd2 p hp).2.elim (I.new p) fun h=>.inr fun q hq=>h q (mI q (hbase q hq))⟩
 refine ok.useChg hC (l:=X.lR) (o':=W.listOf (kl_ins c.vr (bis (ltI ((rowAt (aa X.f X.g) i).map fun y=>1000 * aa X.f X.g y) (1000 * aa X.f X.g z)) 0 ((rowAt (aa X.f X.g) i).map fun y=>1000 * aa X.f X.g y).length:Nat) (.str (one z) u)).toArray (c.nr + 1)) (d:=6) (nx2:=its++X.led { c with vr:=_,nr:=c.nr + 1,ps:=ps2,co:=co2 }) hD (.tail _ (.tail _ (apR (apR (.head _))))) ?_ (fun os news' hcell hch=>?_) (hQ _ I2 fun p hp q hq=>?_)
 ·refine (Chg.rest fun p hp=>⟨.tail _ (.tail _ (apR (apL hp))),Ne.symm (hoff _ (.head _) p hp)⟩).app (.new (.rest fun p hp=>?_))
  rcases cnX hp with rfl | hp
  ·exact ⟨.tail _ (.tail _ (apR (apR (.tail _ (.head _))))),Nat.ne_of_gt H.rv⟩
  ·rcases cnX hp with rfl | hp
   ·exact ⟨.tail _ (.tail _ (apR (apR (.tail _ (.tail _ (.head _)))))),Nat.ne_of_gt (Nat.lt_trans H.rv H.vs)⟩
   ·refine ⟨?_,(X.ne H (X.apart H I2 p hp)).1⟩
    rcases cnX hp with rfl | hp
    ·exact .tail _ (.head _)
    ·exact .tail _ (.tail _ ((apX hp).elim (apL) fun hp=>apR (apR (.tail _ (.tail _ (.tail _ hp))))))
 ·have key:∀ y∈five.take (i + 1),∀ u,KeyIs w kf (os++(kf,kla_obj (Str.ofString "<lambda>") ey wD wF wG [(Str.ofString "seen",C.L + 1 + 1 + 1 + 1)] pmv c' ctv)::(361,tabObj ps2)::(co2++(its++(X.lR,W.listOf c.vr.toArray c.nr)::(X.lV,W.listOf c.vv.toArray c.nv)::(X.dS,c.oD)::(c.sl++X.fix)))) (.str (one y) u) (1000 * aa X.f X.g y):=fun y hy u=>BM hy I.seen I.dict hfr hcell rfl (.head _) (.tail _ (.tail _ (apL hc'))) hdc hvc (.tail _ (.tail _ (apR (apR (.tail _ (.tail _ (.head _))))))) (fun p hp=>.tail _ (.tail _ (apR (apR (.tail _ (.tail _ (.tail _ (apL hp)))))))) u
  show ah w (.ref 65) [.ref X.lR,.str (one z) u] [(Str.ofString "key",.ref kf)] 6 _ _
  refine rq (ns:=(rowAt (aa X.f X.g) i).map fun y=>1000 * aa X.f X.g y) (apR (.tail _ (.tail _ (apR (apR (.head _)))))) (by rw [hlen,List.length_map,bT]) (by rw [List.length_map,bT];lia) (apR (.head _)) (fun j v hj=>?_) (key z (by rw [ba hz];exact apR (.head _)) u) hch
  obtain ⟨y,u3,h1,rfl⟩:=gS I.row j v hj
  have e3:((rowAt (aa X.f X.g) i).map fun y=>1000 * aa X.f X.g y).getD j 0=1000 * aa X.f X.g y:=by rw [List.getD_eq_getElem?_getD,List.getElem?_map,h1];rfl
  rw [e3]
  exact key y (by rw [ba hz];exact apL (fY (Nat.le_of_lt hi) (List.mem_of_getElem? h1))) u3
 ·revert hp p
  refine PX.all (hoff (X.lR,W.listOf c.vr.toArray c.nr) (.head _) q hq) (hoff _ (.tail _ (.head _)) q hq) (hoff _ (.tail _ (.tail _ (.head _))) q hq) fun p hp=>?_
  rcases cnX hp with rfl | hp
  ·exact hoff (361,tabObj c.ps) (.tail _ (.tail _ (.tail _ (.head _)))) q hq
  ·rcases apX hp with hp | hp
   ·rcases (hcd2 p hp).2 with h | h
    ·exact hoff p (.tail _ (.tail _ (.tail _ (.tail _ (apL h))))) q hq
    ·exact Nat.ne_of_gt (h q (apL hq))
   ·exact hoff p (.tail _ (.tail _ (.tail _ (.tail _ (apR hp))))) q hq
theorem JG (hC:C.Ok w S__law_painted D) (hD:4≤D) (H:X.Ok w) (hi:i < 5) (hz:five[i]?=some z) (I:X.Inv w (i + 1) (i + 1) i c) {its:Led} (hoff:∀ p∈X.led c,∀ q∈its,p.1≠q.1) {tb:Tok} {pm:PM} {Q:KV}
  (hQ:∀ c':PS,X.Inv w (i + 1) (i + 1) (i + 1) c'→(∀ p∈X.led c',∀ q∈its,p.1≠q.1)→Q (.v .none) pm (its++X.led c')):aI (C.fm w S__law_painted) (.ref 47) [.v (.ref X.lV),.v (.int (1000 * aa X.f X.g z) tb),.i 0,.i (i:Int)] pm (its++X.led c) Q:=by
 have ok:=Cx.fmOk hC
 have hgz:five.getD i 0=z:=by rw [List.getD_eq_getElem?_getD,hz];rfl
 have hlen:c.vv.length=i + 1:=by rw [I.lev.length,lK]
 have hlv:IntsAre (kl_ins c.vv (bis (leI (lk (aa X.f X.g) i) (1000 * aa X.f X.g z)) 0 i:Nat) (.int (1000 * aa X.f X.g z) tb)) (lk (aa X.f X.g) (i + 1)):=by
  have hle:=(a5 (leI (lk (aa X.f X.g) i) (1000 * aa X.f X.g z)) (Nat.zero_le i)).2
  rw [mx _ (by rw [hlen];exact Nat.le_succ_of_le hle),lk,hgz]
  exact sL _ _ _ I.lev
 have I2:X.Inv w (i + 1) (i + 1) (i + 1) { c with vv:=_,nv:=c.nv + 1 }:=⟨I.seen,I.row,hlv,I.dict,I.tab,I.sep,I.new⟩
 refine tW fun _ _ t u=>?_
 refine ok.useChg hC (l:=X.lV) (o':=W.listOf (kl_ins c.vv (bis (leI (lk (aa X.f X.g) i) (1000 * aa X.f X.g z)) 0 i:Nat) (.int (1000 * aa X.f X.g z) tb)).toArray (c.nv + 1)) (d:=4) (nx2:=its++X.led { c with vv:=_,nv:=c.nv + 1 }) hD (apR (.tail _ (.head _))) ?_ (fun os news' hcell hch=>?_) (hQ _ I2 fun p hp q hq=>?_)
 ·refine (Chg.rest fun p hp=>⟨apL hp,Ne.symm (hoff _ (.tail _ (.head _)) p hp)⟩).app (.old (apR (.head _)) (Nat.ne_of_lt H.rv) (.new (.rest fun p hp=>?_)))
  rcases cnX hp with rfl | hp
  ·exact ⟨apR (.tail _ (.tail _ (.head _))),Nat.ne_of_gt H.vs⟩
  ·exact ⟨apR (.tail _ (.tail _ (.tail _ hp))),(X.ne H (X.apart H I p hp)).2.1⟩
 ·show ah w (.ref 47) [.ref X.lV,.int (1000 * aa X.f X.g z) tb,.int (0:Nat) t,.int i u] [] 4 _ _
  exact rr (lo:=0) (hi:=i) (apR (apR (.tail _ (.head _)))) I.lev (by rw [lK];lia) (Nat.zero_le _) (by rw [lK];lia) hch
 ·revert hp p
  exact PX.all (hoff _ (.head _) q hq) (hoff (X.lV,W.listOf c.vv.toArray c.nv) (.tail _ (.head _)) q hq) (hoff _ (.tail _ (.tail _ (.head _))) q hq) fun p hp=>hoff p (.tail _ (.tail _ (.tail _ hp))) q hq
theorem Hh (hC:C.Ok w S__law_painted D) (hD:12≤D) (hfr:PFr C) (H:X.Ok w) (hi:i < 5) (hz:five[i]?=some z) (I:X.Inv w i i i c) {its:Led} (hoff:∀ p∈X.led c,∀ q∈its,p.1≠q.1) {Q:KF}
  (hQ:∀ pm' c',X.Inv w (i + 1) (i + 1) (i + 1) c'→(∀ p∈X.led c',∀ q∈its,p.1≠q.1)→Sub X.pm pm'→Q .next pm' (its++X.led c')):SS (C.fm w S__law_painted) p3b (X.pm1 i z) (its++X.led c) Q:=by
 have ok:=Cx.fmOk hC
 have fx:∀ c:PS,∀ p∈X.fix,p∈its++X.led c:=fun c p hp=>apR (.tail _ (.tail _ (.tail _ (.tail _ (apR (apR hp))))))
 refine Ea hC (by lia) H (fx c) (List.mem_of_getElem? hz) ?_
 refine meet ok (X.pm3 i z) (its++X.led c) (fun Q' hQ'=>JA hC hQ') ?_
 refine JC ok (fun h:UInt64×UInt64×UInt64=>X.pm4 i z h.1 h.2.1 h.2.2) (its++X.led c) (fun h=>fZ (X.hs.getD i 0) (aH X.f X.g z) (aa X.f X.g z) h.1 h.2.1 h.2.2) (fun Q' hQ'=>Ef hC (by lia) H (fx c) hi fun Da V Hu pm' nx' hP hsub hnx=>hQ' (Da,V,Hu) _ _ hP hsub hnx) fun h hP=>?_
 refine JD hC H I hi hz hoff hP fun c1 I1 h1=>?_
 refine meet ok (X.pm1 i z) (its++X.led c1) (fun Q' hQ'=>JE hC (by lia) H hi hz I1 (nx:=its++X.led c1) (fun p hp=>apR hp) hP fun nx' hn=>hQ' _ _ (eU (by kernel_rfl)) hn) ?_
 refine JF hC (by lia) hfr H hi hz I1 h1 fun c2 I2 h2=>?_
 obtain ⟨lN,ta,tb,hat,hmem⟩:=dW I2.seen (x:=z) (by rw [ba hz];exact apR (.head _))
 refine bc ok (bC ok (.v (.ref lN)) (apR (.tail _ (.tail _ (.head _)))) I2.dict rfl hat rfl ?_)
 refine aG ok (.v (.int (1000 * aa X.f X.g z) tb)) (apR (.tail _ (.tail _ (.tail _ (.tail _ (apR (apL hmem))))))) rfl (by decide) (aD rfl) (aD rfl) rfl ?_
 exact JG hC (by lia) H hi hz I2 h2 fun c3 I3 h3=>hQ _ _ I3 h3 (eU (by kernel_rfl))
end
end Mine
end
section
namespace Mine
section
variable {C:Cx} {w:World} {D:Nat}
theorem Go.apart {α β:Type} {F:Fm} {r:β→α→Prop} {t:Sem α} {pm:PM} {nx:Led} {Q:β→PM→Led→Prop} (ok:F.Ok) {a b:Addr} {o o':Obj} (m1:(a,o)∈nx) (m2:(b,o')∈nx) (hne:o≠o') (h:a≠b→Go F r t pm nx Q):Go F r t pm nx Q:=fun s P hR hP =>
 h (fun e=>hne (Option.some.inj ((ok.mem hR m1).symm.trans (e▸ok.mem hR m2)))) s P hR hP
theorem sR (hC:C.Ok w S__law_painted D) (hD:12≤D) {base codes base₀ nx:Led} {ps:Array Value} {x:Addr} {f:Nat→Nat} {pm:PM} {a b:Str} {Q:KU} (hT:Tab gh ps.toList codes) (hco:∀ p∈codes,p.1≠356) (hb:∀ p∈base,p.1≠356) (hnx:∀ p∈(356,tabObj ps)::(codes++base),p∈nx) (hB:TabFor w base₀ x f) (hbb:∀ p∈base₀,p∈base)
  (hq:∀ (E lS:Addr) (oD:Obj) (kvs:List (Str×Value)) (vt:List Value) (nt:Nat) (ps':Array Value) (codes' nx':Led),Tab gh ps'.toList codes'→lg f 5 kvs→oD.IsDictOf (PySem.strKind PySem.Challenge.rw_tc0096_01.prog w) kvs→IntsAre vt (ay f 5).1→(∀ p∈codes',p.1≠356∧(p∈codes∨∀ q∈base,q.1 < p.1))→E≠356∧lS≠356 →
   (∀ p∈(E,oD)::(lS,W.listOf vt.toArray nt)::(356,tabObj ps')::(codes'++base),p∈nx')→kQ (C.fm w S__law_painted) [a,b] [.v (.ref E),.v (.ref lS)] pm nx' Q):GoV (C.fm w S__law_painted) (call (.ref 359) [.ref x]) pm nx fun v pm nx=>GL C w S__law_painted [a,b] v pm nx Q:=by
 obtain ⟨d,l,t0,hx,hd0⟩:=hB.ex
 refine hC.use hD fun os ap=>⟨(356,tabObj ps)::(codes++(os++base)),lJ w f codes (os++base),fun p hp=>?_,?_,?_⟩
 ·rcases cnX hp with rfl | hp
  ·exact apR (hnx _ (.head _))
  ·rcases apX hp with hp | hp
   ·exact apR (hnx p (.tail _ (apL hp)))
   ·exact (apX hp).elim (apL) fun hp=>apR (hnx p (.tail _ (apR hp)))
 ·refine ua hT hco (fun p hp=>(apX hp).elim (fun hp=>ap p hp _ (hnx _ (.head _))) (hb p)) (apR (hbb _ hx)) (apR (hbb _ hd0)) hB.le fun news' c t hc hn=>hB.get news' c t hc fun p hp=>hn p (apR (hbb p hp))
 ·rintro v nx' ⟨T,E,lS,oD,kvs,vt,nt,ps',codes',h1,h2,h3,h4,h5,h6,h7⟩
  refine ⟨.v (.ref T),(T,({ cls:=.type "tuple",data:=.seq #[.ref E,.ref lS] }:Obj))::(E,oD)::(lS,W.listOf vt.toArray nt)::(356,tabObj ps')::(codes'++base),rfl,fun p hp=>?_,fun p hp q hq=>?_,T,[.v (.ref E),.v (.ref lS)],#[.ref E,.ref lS],0,rfl,.head _,.cons rfl (.cons rfl .nil),rfl,hq E lS oD kvs vt nt ps' codes' _ h1 h2 h3 h4 (fun p hp=>⟨(h5 p hp).1,(h5 p hp).2.imp id fun h q hq=>h q (apR hq)⟩) h7 fun p hp=>.tail _ hp⟩
  ·rcases apX hp with hp | hp
   ·exact .tail _ (.tail _ (.tail _ (.tail _ (apR (apL hp)))))
   ·rcases cnX hp with rfl | hp
    ·exact .head _
    ·rcases cnX hp with rfl | hp
     ·exact .tail _ (.head _)
     ·rcases cnX hp with rfl | hp
      ·exact .tail _ (.tail _ (.head _))
      ·rcases cnX hp with rfl | hp
       ·exact .tail _ (.tail _ (.tail _ (.head _)))
       ·exact .tail _ (.tail _ (.tail _ (.tail _ ((apX hp).elim (apL) fun hp=>apR (apR hp)))))
  ·obtain ⟨n1,n2,n3⟩:=h6 p (apL hp)
   rcases cnX hq with rfl | hq
   ·exact n1
   ·rcases cnX hq with rfl | hq
    ·exact n2
    ·rcases cnX hq with rfl | hq
     ·exact n3
     ·rcases cnX hq with rfl | hq
      ·exact ap p hp (356,tabObj ps) (hnx _ (.head _))
      ·rcases apX hq with hq | hq
       ·rcases (h5 q hq).2 with h | h
        ·exact ap p hp q (hnx q (.tail _ (apL h)))
        ·exact Nat.ne_of_lt (h p (apL hp))
       ·exact ap p hp q (hnx q (.tail _ (apR hq)))
structure PIn (w:World) (base₀ codes codes2:Led) (ps ps2:Array Value) (xb xa lh:Addr) (f g:Nat→Nat) (vh:List Value) (nh:Nat) (hs:List Int):Prop where
 t1:Tab gh ps.toList codes
 t2:Tab ey ps2.toList codes2
 b:∀ p∈base₀,p.1≠356∧p.1≠361
 c1:∀ p∈codes,p.1≠356∧p.1≠361
 c2:∀ p∈codes2,p.1≠356∧p.1≠361
 below:TabFor w base₀ xb f
 above:TabFor w base₀ xa g
 hl:(lh,W.listOf vh.toArray nh)∈base₀
 hh:IntsAre vh hs
 h5:hs.length=5
 hr:∀ h∈hs,0≤h∧h < 72
structure Kw (w:World) (base₀ codes codes2:Led) (f g:Nat→Nat) (X:PX) (c:PS):Prop where
 H:X.Ok w
 I:X.Inv w 5 5 5 c
 f:X.f=f
 g:X.g=g
 base:X.base=base₀
 co2:X.co2=codes2
 tab:Tab gh X.ps.toList X.co
 co:∀ p∈X.co,p.1≠356∧(p∈codes∨∀ q∈base₀,q.1 < p.1)
theorem JH (hC:C.Ok w S__law_painted D) (hD:12≤D) (hfr:PFr C) {base₀ codes codes2:Led} {ps ps2:Array Value} {xb xa lh:Addr} {f g:Nat→Nat} {vh:List Value} {nh:Nat} {hs:List Int} (hI:PIn w base₀ codes codes2 ps ps2 xb xa lh f g vh nh hs) {Q:KF}
  (hQ:∀ X c,Kw w base₀ codes codes2 f g X c→Q .next X.pm (X.led c)):SS (C.fm w S__law_painted) (B__law_painted.take 4) (pm0 [(Str.ofString "below",Value.ref xb),(Str.ofString "above",Value.ref xa),(Str.ofString "hues",Value.ref lh)]) ((356,tabObj ps)::(codes++(361,tabObj ps2)::(codes2++base₀))) Q:=by
 have ok:=Cx.fmOk hC
 refine iU hC rfl (bc ok (iW fun _=>?_))
 refine sR hC hD (base:=(361,tabObj ps2)::(codes2++base₀)) hI.t1 (fun p hp=>(hI.c1 p hp).1) ?_ (fun p hp=>hp) hI.below (fun p hp=>.tail _ (apR hp)) fun Db lSb oDb kvb vtb ntb ps1 codes1 nx1 t1 k1 d1 i1 c1 e1 s1=>?_
 ·intro p hp
  rcases cnX hp with rfl | hp
  ·exact (by decide:(361:Nat)≠356)
  ·exact (apX hp).elim (fun hp=>(hI.c2 p hp).1) fun hp=>(hI.b p hp).1
 refine iU hC rfl (bc ok (iW fun _=>?_))
 refine sR hC hD (codes:=codes1) (base:=(Db,oDb)::(lSb,W.listOf vtb.toArray ntb)::(361,tabObj ps2)::(codes2++base₀)) t1 (fun p hp=>(c1 p hp).1) ?_ (fun p hp=>s1 p ?_) hI.above (fun p hp=>.tail _ (.tail _ (.tail _ (apR hp)))) fun Da lSa oDa kva vta nta ps3 codes3 nx3 t3 k3 d3 i3 c3 e3 s3=>?_
 ·intro p hp
  rcases cnX hp with rfl | hp
  ·exact e1.1
  ·rcases cnX hp with rfl | hp
   ·exact e1.2
   ·rcases cnX hp with rfl | hp
    ·exact (by decide:(361:Nat)≠356)
    ·exact (apX hp).elim (fun hp=>(hI.c2 p hp).1) fun hp=>(hI.b p hp).1
 ·rcases cnX hp with rfl | hp
  ·exact .tail _ (.tail _ (.head _))
  ·rcases apX hp with hp | hp
   ·exact .tail _ (.tail _ (.tail _ (apL hp)))
   ·rcases cnX hp with rfl | hp
    ·exact .head _
    ·rcases cnX hp with rfl | hp
     ·exact .tail _ (.head _)
     ·exact .tail _ (.tail _ (.tail _ (apR hp)))
 refine mq hC rfl ⟨rfl,(aD rfl)⟩ ?_
 have hla:vta.length≤5:=by rw [i3.length];exact gU g 5
 have hlb:vtb.length≤5:=by rw [i1.length];exact gU f 5
 have mSb:(lSb,W.listOf vtb.toArray ntb)∈nx3:=s3 _ (.tail _ (.tail _ (.tail _ (apR (.tail _ (.head _))))))
 refine nz ok (s3 _ (.tail _ (.head _))) mSb (Nat.le_trans (Nat.add_le_add hla hlb) (aD rfl)) fun Do hDo=>?_
 refine bj ok (aD rfl) fun lR xR hxR hlR=>?_
 cases hxR
 refine bj ok (aD rfl) fun lV xV hxV hlV=>?_
 refine Bb ok fun dS oD hoD hdS=>⟨rfl,?_⟩
 let X:PX:=⟨Da,Db,lSa,lSb,Do,lR,lV,dS,lh,oDa,oDb,kva,kvb,vta,vtb,vh,nta,ntb,nh,hs,f,g,ps3,codes3,base₀,codes2⟩
 have hb3:∀ q∈base₀,q∈nx3:=fun q hq=>s3 q (.tail _ (.tail _ (.tail _ (apR (.tail _ (.tail _ (.tail _ (apR hq))))))))
 have m61:(361,tabObj ps2)∈nx3:=s3 _ (.tail _ (.tail _ (.tail _ (apR (.tail _ (.tail _ (.head _)))))))
 have hfx:∀ p∈X.fix,p∈(Do,W.listOf (vta++vtb).toArray 0)::nx3:=by
  refine dR (.head _) fun p hp=>.tail _ (s3 p ?_)
  rcases cnX hp with rfl | hp
  ·exact .tail _ (.head _)
  ·rcases cnX hp with rfl | hp
   ·exact .tail _ (.tail _ (.tail _ (apR (.tail _ (.head _)))))
   ·rcases cnX hp with rfl | hp
    ·exact .head _
    ·rcases cnX hp with rfl | hp
     ·exact .tail _ (.tail _ (.tail _ (apR (.head _))))
     ·have hbs:∀ q∈base₀,q∈(Da,oDa)::(lSa,W.listOf vta.toArray nta)::(356,tabObj ps3)::(codes3++(Db,oDb)::(lSb,W.listOf vtb.toArray ntb)::(361,tabObj ps2)::(codes2++base₀)):=fun q hq=>.tail _ (.tail _ (.tail _ (apR (.tail _ (.tail _ (.tail _ (apR hq)))))))
      rcases cnX hp with rfl | hp
      ·exact hbs _ hI.hl
      ·rcases cnX hp with rfl | hp
       ·exact .tail _ (.tail _ (.head _))
       ·exact (apX hp).elim (fun hp=>.tail _ (.tail _ (.tail _ (apL hp)))) (hbs p)
 have m3:∀ p∈(Do,W.listOf (vta++vtb).toArray 0)::nx3,p∈(dS,oD)::(lV,W.listOf xV.toArray 0)::(lR,W.listOf #[] 0)::(Do,W.listOf (vta++vtb).toArray 0)::nx3:=fun p hp=>.tail _ (.tail _ (.tail _ hp))
 have tabD:∀ {o kvs} {ps:Array Value},Obj.IsDictOf (PySem.strKind PySem.Challenge.rw_tc0096_01.prog w) o kvs→o≠tabObj ps:=fun ⟨_,_,_,h,_⟩ e=>by rw [e] at h;cases h
 refine Go.apart ok (m3 _ (.tail _ (s3 _ (.head _)))) (m3 _ (.tail _ m61)) (tabD d3) fun n1=>?_
 refine Go.apart ok (m3 _ (hfx _ (.tail _ (.tail _ (.tail _ (.tail _ (.head _))))))) (m3 _ (.tail _ m61)) (tabD d1) fun n2=>?_
 refine Go.apart ok (m3 _ (hfx _ (.tail _ (.head _)))) (m3 _ (.tail _ m61)) nofun fun n3=>?_
 refine Go.apart ok (m3 _ (hfx _ (.tail _ (.tail _ (.head _))))) (m3 _ (.tail _ m61)) nofun fun n4=>?_
 have m2:∀ q∈codes2,q∈nx3:=fun q hq=>s3 q (.tail _ (.tail _ (.tail _ (apR (.tail _ (.tail _ (.tail _ (apL hq))))))))
 have H:X.Ok w:=⟨i3,i1,d3,d1,k3,k1,hI.hh,hI.h5,hI.hr,fun p hp=>?_,fun p hp=>?_,hlV _ (.head _),hdS _ (.head _)⟩
 ·refine mu hC (sv hC (n:=5) (fun _=>X.pm) X.led (fun i c=>X.Inv w i i i c) ⟨[],xV,0,0,[],oD,ps2,codes2,[]⟩ rfl rfl ⟨⟨⟨fun _=>0,rfl,fun _ hc=>nomatch hc⟩,.nil,AllIs.ints (ns:=[-1]) hxV,hoD,hI.t2,fun p hp=>?_,fun p hp=>.inl hp⟩,eU (by kernel_rfl),fun p hp=>?_⟩ (fun i c its hi hP hoff Q1 hQ1 hR1=>?_) fun c hP=>hQ X c ⟨H,hP,rfl,rfl,rfl,rfl,t3,fun p hp=>⟨(c3 p hp).1,?_⟩⟩) ⟨rfl,rfl,rfl⟩
  ·have hp:p∈codes2:=(apX hp).resolve_right (fun h=>nomatch h)
   exact ⟨(hI.c2 p hp).2,.inl (hlR p (.tail _ (m2 p hp)))⟩
  ·rcases cnX hp with rfl | hp
   ·exact .tail _ (.tail _ (.head _))
   ·rcases cnX hp with rfl | hp
    ·exact .tail _ (.head _)
    ·rcases cnX hp with rfl | hp
     ·exact .head _
     ·refine m3 p ?_
      rcases cnX hp with rfl | hp
      ·exact .tail _ m61
      ·exact (apX hp).elim (fun hp=>.tail _ (m2 p hp)) (hfx p)
  ·have hg:(Str.ofString "ahkmp").cps.toList.getD i 0=five.getD i 0:=congrArg (fun l:List Nat=>l.getD i 0) lj
   rw [hg]
   exact ⟨its++X.led c,fun _ h=>h,Hh hC hD hfr H hi (dj hi).1 hP hoff fun pm' c' I' h' hs=>hQ1 _ _ c' I' hs (fun _ h=>h) h'⟩
  ·exact (c3 p hp).2.elim (fun h=>(c1 p h).2.imp id fun h q hq=>h q (.tail _ (apR hq))) fun h=>.inr fun q hq=>h q (.tail _ (.tail _ (.tail _ (apR hq))))
 ·rcases cnX hp with rfl | hp
  ·exact hlR (361,tabObj ps2) (.tail _ m61)
  ·exact hlR p (hfx p hp)
 ·rcases cnX hp with rfl | hp
  ·exact Nat.ne_of_gt (hDo _ m61)
  ·rcases cnX hp with rfl | hp
   ·exact n3
   ·rcases cnX hp with rfl | hp
    ·exact n4
    ·rcases cnX hp with rfl | hp
     ·exact n1
     ·rcases cnX hp with rfl | hp
      ·exact n2
      ·rcases cnX hp with rfl | hp
       ·exact (hI.b _ hI.hl).2
       ·rcases cnX hp with rfl | hp
        ·exact (by decide:(356:Nat)≠361)
        ·refine (apX hp).elim (fun hp=>?_) fun hp=>(hI.b p hp).2
         rcases (c3 p hp).2 with h | h
         ·exact (c1 p h).2.elim (fun h=>(hI.c1 p h).2) fun h=>Nat.ne_of_gt (h _ (.head _))
         ·exact Nat.ne_of_gt (h (361,tabObj ps2) (.tail _ (.tail _ (.head _))))
end
end Mine
end
section
namespace Mine
section
variable {C:Cx} {w:World} {sc:Scope} {pm:PM} {nx:Led} {D:Nat}
noncomputable def Hi (a b c:Int) (t u v:Tok):Obj:={ cls:=.type "range",data:=.fields #[.int a t,.int b u,.int c v] }
theorem xW {F:Fm} (ok:F.Ok) {x y z:PV} {a b c:Int} {Q:KV} (hx:asI x=some a) (hy:asI y=some b) (hz:asI z=some c) (hc:c≠0) (hp:Builtin.divisionGoesByPylong (b - a) c=false) (h:∀ r t u v,(∀ p∈nx,p.1 < r)→Q (.v (.ref r)) pm ((r,Hi a b c t u v)::nx)):aI F (.type "range") [x,y,z] pm nx Q:=by
 refine gN fun x1 y1 z1 h1 h2 h3 s P hR hP=>?_
 obtain ⟨t,rfl⟩:=au hx h1
 obtain ⟨u,rfl⟩:=au hy h2
 obtain ⟨v,rfl⟩:=au hz h3
 have al:=ok.alloc (o:=Hi a b c t u v) rfl hR
 exact call_range_3 hc (hP _ _ _ _ _ (h _ _ _ _ al.2) rfl al.1) (.inl hp)
theorem sS (hC:C.Ok w sc D) {r:Addr} {a b c:Int} {t u v:Tok} {n:Nat} {σ:Type} (ps:σ→PM) (led:σ→Led) (P:Nat→σ→Prop) (c₀:σ) {y:Str} {py:Pos} {body:List Stmt} {Q:KF} (hr:(r,Hi a b c t u v)∈nx) (hsm:Builtin.Range.small a b c=true) (hn:Builtin.Range.rangeSize a b c=(n:Int))
  (h0:P 0 c₀∧Sub (ps c₀) pm∧∀ p∈led c₀,p∈nx)
  (turn:∀ i d its,i < n→P i d→(∀ p∈led d,∀ q∈its,p.1≠q.1)→∀ Q':KF,(∀ pm nx c',P (i + 1) c'→Sub (ps c') pm→(∀ p∈its++led c',p∈nx)→(∀ p∈led c',∀ q∈its,p.1≠q.1)→Q' .next pm nx)→(∀ v pm nx,Q (.ret v) pm nx→Q' (.ret v) pm nx)→∃ (u:PV) (X:Led),(∀ t,u.Is (.int (a + (i:Int) * c) t))∧(∀ p∈X,p∈its++led d)∧fS (C.fm w sc) y u (ps d) X (kM (C.fm w sc) body Q'))
  (done:∀ d,P n d→Q .next (ps d) (led d)):si C w sc (.Name y py) body (.v (.ref r)) pm nx Q:=by
 intro v s T hv hR hT
 obtain rfl:=hv
 have hlen:(a0 a c n).length=n:=by simp [a0]
 obtain ⟨m,os,F,N,hrest⟩:=fW hC ps led P (xs:=a0 a c n) (py:=py) (keep:=[]) c₀ (fun _ _ _ p hp=>nomatch hp) h0 (fun i d its hi e f Q' g k=>by
  obtain ⟨u,X,h1,h2,h3⟩:=turn i d its (hlen▸hi) e f Q' g k
  exact ⟨u,X,fun x v h hx hv=>(sC hx hv).2.elim fun t e=>e▸h1 t,h2,h3⟩) (by rw [hlen];exact done) hR hT
 exact rk rfl F N (hR.get hr) hsm hn fun I cls hI=>hrest _ (Dz hI)
theorem RowsN.get {ok':Led} {h:Heap} {xs:List Value} {rs:List (List Nat)} (hr:RowsN ok' xs rs) (hg:∀ a o,(a,o)∈ok'→h.get? a=some o):cG h xs rs:=by
 induction hr with
 | nil=>exact .nil
 | cons a vs ns n hm hv _ ih=>exact .cons ⟨_,hg _ _ hm,rfl,n,rfl⟩ hv ih
theorem uh {F:Fm} (ok:F.Ok) (hC:F.C.Ok F.w F.sc D) {a b:Addr} {xs ys:List Value} {rs ts:List (List Nat)} {n k:Nat} {Q:KV} (ha:(a,W.listOf xs.toArray n)∈nx) (hb:(b,W.listOf ys.toArray k)∈nx) (hi:RowsN nx xs rs) (hj:RowsN nx ys ts) (h1:∀ r∈rs,∀ c∈r,c < 1114112) (h2:∀ r∈ts,∀ c∈r,c < 1114112) (hd:9≤D) (h:Q (.v (.bool (!decide (rs=ts)))) pm nx):dE F .NotEq (.v (.ref a)) (.v (.ref b)) pm nx Q:=by
 intro x y hx hy s P hR hP
 obtain rfl:=hx;obtain rfl:=hy
 have hu:F.A.units + 64 < cLine:=by rw [ok.hA];have:=hC.un;show F.C.un + 64 < _;lia
 exact DY (ok.list hR ha) (ok.list hR hb) (hi.get fun a o m=>ok.mem hR m) (hj.get fun a o m=>ok.mem hR m) h1 h2 hu (hP _ _ _ _ _ h rfl hR)
end
section
variable {C:Cx} {w:World} {D:Nat} {X:PX} {c:PS}
theorem PFr.row (h:PFr C):(C.fm w S__law_painted).cell (Str.ofString "row")=some (C.L + 1):=(congrArg (List.lookup _) h.cl).trans rfl
theorem PFr.levels (h:PFr C):(C.fm w S__law_painted).cell (Str.ofString "levels")=some (C.L + 1 + 1):=(congrArg (List.lookup _) h.cl).trans rfl
theorem Hj (hC:C.Ok w S__law_painted D) (hD:4≤D) (hfr:PFr C) (I:X.Inv w 5 5 5 c) {Q:KF}
  (hQ:∀ E ys own,Crowds own c.vr (dC (aH X.f X.g) (aa X.f X.g)) five ys→(∀ p∈own,p.1≠361)→Q .next (put (Str.ofString "told") (.v (.ref E)) X.pm) ((E,W.listOf ys.toArray ys.length)::(own++X.led c))):GoF (C.fm w S__law_painted) (exec (B__law_painted.getD 4 (.Pass default)) (C.fm w S__law_painted).env) X.pm (X.led c) Q:=by
 have ok:=Cx.fmOk hC
 have hlr:c.vr.length=5:=by rw [I.row.length,List.length_map,bT]
 refine kO ok (by rw [hfr.env];rfl) ?_
 refine bu ok (oy:=none) [(Str.ofString "row",.v (.ref X.lR)),(Str.ofString "levels",.v (.ref X.lV)),(Str.ofString "seen",.v (.ref X.dS))] (fun i=>.s (one (five.getD i 0))) (fun own:Led=>own++X.led c) (fun i ys own=>Crowds own c.vr (dC (aH X.f X.g) (aa X.f X.g)) (five.take i) ys∧∀ p∈own,p.1≠361) [] (dN ok) ⟨⟨rfl,⟨_,fun _=>rfl,hfr.row⟩,rfl,rfl⟩,⟨rfl,⟨_,fun _=>rfl,hfr.levels⟩,rfl,rfl⟩,⟨rfl,⟨_,fun _=>rfl,hfr.seen⟩,rfl,rfl⟩,trivial⟩ (fun i v hv=>dM hv) (fun i ys own hi h=>?_) (fun _ _ _ _ p hp=>nomatch hp) ⟨⟨.nil,fun p hp=>nomatch hp⟩,fun p hp=>hp⟩ (fun i ys own hi h κ okG Qy Qn hQy _=>?_) (fun ys own E h _=>hQ E ys own h.1 h.2)
 ·rw [h.1.len,List.length_take];exact Nat.le_trans (Nat.min_le_right _ _) (aD rfl)
 ·obtain ⟨hc,hc5⟩:=dj hi
  have mI:∀ p∈X.led c,p∈own++X.led c:=fun p hp=>apR hp
  obtain ⟨lN,ta,tb,hat,hmem⟩:=dW I.seen (x:=five.getD i 0) hc5
  refine sA okG (bc okG (bC okG (.v (.ref lN)) (mI _ (.tail _ (.tail _ (.head _)))) I.dict rfl hat rfl ?_))
  refine aG okG (.v (.int (1000 * aH X.f X.g (five.getD i 0)) ta)) (mI _ (.tail _ (.tail _ (.tail _ (.tail _ (apR (apL hmem))))))) rfl (Int.le_refl _) (aD rfl) (aD rfl) rfl (tW fun _ _ t u=>?_)
  refine okG.useR hC (.i (dC (aH X.f X.g) (aa X.f X.g) (five.getD i 0):Nat)) (d:=2) (by lia) (fun os=>rp (lo:=0) (H:=5) (tl₀:=t) (apR (mI _ (.tail _ (.head _)))) I.lev ?_ (Nat.zero_le _) ?_ (.inr ⟨u,rfl⟩) (fun s X=>kp_binds X (fun _=>rfl))) (fun t=>⟨t,rfl⟩) ?_
  ·rw [lK];exact (aD rfl)
  ·rw [lK];exact (aD rfl)
  refine ⟨X.lR,c.vr,c.nr,dC (aH X.f X.g) (aa X.f X.g) (five.getD i 0),rfl,mI _ (.head _),rfl,by rw [hlr];decide,fun E hE=>?_⟩
  refine hQy _ _ _ ((E,W.listOf (c.vr.take (dC (aH X.f X.g) (aa X.f X.g) (five.getD i 0))).toArray 0)::own) (fun y hy=>⟨?_,fun p hp=>?_⟩) (fun p hp=>hp) trivial
  ·obtain rfl:=hy
   rw [ba hc]
   exact (h.1.mono fun p hp=>.tail _ hp).snoc (.head _)
  ·rcases cnX hp with rfl | hp
   ·exact Nat.ne_of_gt (hE (361,tabObj c.ps) (mI _ (.tail _ (.tail _ (.tail _ (.head _))))))
   ·exact h.2 p hp
end
end Mine
end
section
namespace Mine
noncomputable def BN (es:List (Int×Value)):Bool:=es.all fun e=>match e.2 with
 | .int i _=>e.1==hashInt i
 | _=>false
noncomputable def wR (es:List (Int×Value)):List Int:=es.filterMap fun e=>match e.2 with
 | .int i _=>some i
 | _=>none
theorem sT {prog:Program} {w:World} {es:List (Int×Value)} (h:BN es=true):ElemsOf (intKind prog w) es:=by
 intro e he
 have:=List.all_eq_true.mp h e he
 obtain ⟨hh,v⟩:=e
 cases v with
 | int i t=>exact ⟨⟨i,intKind_is _ _ _ _,(by simpa using this:hh=hashInt i)⟩,rfl⟩
 | _=>simp at this
theorem xX {prog:Program} {w:World} {es:List (Int×Value)} (h:BN es=true) (k:Int):(wR es).contains k=true↔∃ e∈es,(intKind prog w).is k e.2=true:=by
 rw [List.contains_iff_mem]
 unfold wR
 rw [List.mem_filterMap]
 constructor
 ·rintro ⟨⟨hh,v⟩,he,hv⟩
  cases v with
  | int i t =>
   obtain rfl:i=k:=by simpa using hv
   exact ⟨_,he,intKind_is _ _ _ _⟩
  | _=>simp at hv
 ·rintro ⟨⟨hh,v⟩,he,hv⟩
  have:=List.all_eq_true.mp h _ he
  cases v with
  | int i t =>
   refine ⟨_,he,?_⟩
   have:i=k:=by
    have hv':Value.isInt k (.int i t)=true:=hv
    simpa [Value.isInt] using hv'
   rw [this]
  | _=>simp at this
noncomputable def b1L:List Int:=[65024,65025,65026,65027,65028,65029,6150,65030,65031,65032,65033,6155,6156,6157,8203,8204,8205,65034,65035,65036,65037,65038,65039,173,847,8288,65279]
theorem Hk (P:Params) (prog:Program) (w:World):(iE P).SetObjOf (intKind prog w) (fun k=>b1L.contains k) 27:=by
 refine ⟨⟨rfl,rfl,rfl⟩,_,_,_,rfl,sT (by kernel_rfl),fun k=>?_,rfl,by kernel_rfl⟩
 rw [← xX (prog:=prog) (w:=w) (by kernel_rfl) k]
 exact Iff.rfl
local macro_rules | `(tactic| walk_at "compareOp In") => `(tactic| refine cB ?_)
theorem wU {w:World} {news:List (Addr×Obj)} {c:Nat} {t:Tok} (hc:c < 0x110000):az w (.ref 127) [.str (Str.mk #[c]) t] [] 2 news (fun _=>.bool (b1L.contains (c:Int))):=by
 (try unfold az);(try unfold ah);(try unfold bp);k_fill;intro p loose mean mg mb dp un gd cn nm b1 b2 mr a ccd cl outer A₀ base h₀ L m s Q E B F X N T hd hu hret
 refine wpAny_call ?_
 k_dflt (refine' code_def (binds:=[(Str.ofString "code",Value.str (Str.mk #[c]) t)]) ?k1 ?k2 ?k3 ?k4 ?k5 ?kA ?kF ?kK ?k6 ?k7 ?k8 ?k9 ?kB ?_ ?c2 ?c3 ?c4 ?c5;(case kA=>exact rfl);(case kF=>exact rfl);(case kK=>exact rfl);(case k1=>k_asm);(case k2=>k_asm);(case k3=>k_asm);(case k4=>k_asm);(case k5=>k_asm);(case k6=>k_is);(case k7=>k_is);(case k8=>ktr_room);(case k9=>first | exact BindsTo.of_eq rfl | (refine' kp_binds ?kx ?ke;(case kx=>k_in);(case ke=>exact fun _=>rfl)));(case c5=>decide);(case kB=>exact locs rfl);(case c2=>exact rfl);(case c3=>exact rfl);(case c4=>exact rfl);k_whole;intro g' L' h' FG' F' N' B' X' T';(try dsimp only);(try k_fold))
 k_steps
 unfold aF
 refine in_argsetI (o:=iE w.params) (n:=27) (by k_asm) (Hk w.params _ w) (X' _ _ (by rfl)) (by decide) ?_
 k_steps
 exact hret _ _ _ _ ⟨rfl,0,rfl⟩ (by k_asm) (by k_asm)
end Mine
end
section
namespace Mine
local macro_rules | `(tactic| walk_at "zz") => `(tactic| skip)
noncomputable def mz (es:List DictEntry):Bool:=es.all fun e=>match e.key with
 | .int i _=>e.hash==hashInt i
 | _=>false
noncomputable def pairsOf:List DictEntry→List (Int×Value)
 | []=>[]
 | e :: r => match e.key with
  | .int i _=>(i,e.val)::pairsOf r
  | _=>pairsOf r
theorem sU {prog:Program} {w:World} {es:List DictEntry} (h:mz es=true):KeysOf (intKind prog w) es.toArray:=by
 intro e he
 have:=List.all_eq_true.mp h e (by simpa using he)
 obtain ⟨hh,k,v⟩:=e
 cases k with
 | int i t=>exact ⟨i,intKind_is _ _ _ _,(by simpa using this:hh=hashInt i)⟩
 | _=>simp at this
theorem rA {prog:Program} {w:World}:∀ {es:List DictEntry},mz es=true→Pairs (intKind prog w) es (pairsOf es):=by
 intro zz
 induction zz with
 | nil =>
  intro _
  exact .nil
 | cons e r ih =>
  intro h
  obtain ⟨hh,k,v⟩:=e
  simp only [mz,List.all_cons,Bool.and_eq_true] at h
  cases k with
  | int i t=>exact .cons (intKind_is _ _ _ _) rfl (ih h.2)
  | _=>simp at h
theorem Rise.low:∀ {lo:Int} {l:List Int},Rise lo l→(∀ k∈l,lo < k)∧l.Nodup:=by
 intro lo zz
 induction zz generalizing lo with
 | nil =>
  intro _
  exact ⟨fun k h=>(nomatch h),List.nodup_nil⟩
 | cons a l ih =>
  intro h
  have:=ih h.2.2
  refine ⟨fun k hk=>?_,List.nodup_cons.mpr ⟨fun hm=>Int.lt_irrefl _ (this.1 a hm),this.2⟩⟩
  rcases cnX hk with rfl | hk
  ·exact h.1
  ·exact Int.lt_trans h.1 (this.1 k hk)
noncomputable def b3O (P:Params):List DictEntry:=match (iF P).data with
 | .dict es _=>es.toList
 | _=>[]
theorem FR (P:Params):mz (b3O P)=true:=by kernel_rfl
theorem Eg (P:Params):oK (-1) ((pairsOf (b3O P)).map (·.1))=true:=by kernel_rfl
theorem BO (P:Params) (prog:Program) (w:World):(iF P).IsDictOf (intKind prog w) (pairsOf (b3O P)) :=
 ⟨_,_,⟨rfl,rfl,rfl⟩,rfl,sU (FR P),rA (FR P),(Rise.low (vN (Eg P))).2⟩
theorem pA {w:World} {A:Around} {E:Value→Shared→Prop} {s:Shared} {prog:Program} {pl:Sem Bool} {Q:Value×List Value→Shared→Prop} (ho:s.heap.get? 128=some (iF w.params)) (h:Q (.builtin "dict.get",[.ref 128]) s):wpAny (model prog w) A (getMethod (.ref 128) "get" pl) Q E s :=
 have hD:s.heap.DictOf (intKind prog w) 128 (pairsOf (b3O w.params)):=Heap.dictOf_iff.mpr ⟨_,ho,BO w.params prog w⟩
 getMethod_builtin hD.typeIs PySem.F.plainAttrs_dict PySem.F.slot_dict_get PySem.F.type_dict_get hD.mapOf.noDict h
theorem BP {w:World} {A:Around} {E:Value→Shared→Prop} {s:Shared} {prog:Program} {k:Int} {t:Tok} {Q:Value→Shared→Prop} (ho:s.heap.get? 128=some (iF w.params)) (h:Q ((valueAt (pairsOf (b3O w.params)) k).getD .none) { s with toks:=s.toks + 1 }):wpAny (model prog w) A (call (.builtin "dict.get") [.ref 128,.int k t]) Q E s :=
 have hD:s.heap.DictOf (intKind prog w) 128 (pairsOf (b3O w.params)):=Heap.dictOf_iff.mpr ⟨_,ho,BO w.params prog w⟩
 call_meetsIn PySem.F.slot_dict_get hD.typeIs PySem.F.entry_dict_get (PySem.F.args_dict_get_2 _ _) (meets_dict_get (intKind prog w) 128 (intKind_is _ _ _ _) (by decide)) ⟨_,hD.mapOf,h⟩
local macro_rules | `(tactic| walk_at $k:str) => if ["getMethod ref", "call builtin:dict.get"].contains k.getString then `(tactic| refine cB ?_) else Lean.Macro.throwUnsupported
theorem Hl {w:World} {news:List (Addr×Obj)} {c:Nat} {t tv:Tok} {x:Str} (hx:valueAt (pairsOf (b3O w.params)) (c:Int)=some (.str x tv)):az w (.ref 173) [.str (Str.mk #[c]) t] [] 2 news (fun t=>.str x t):=by
 (try unfold az);(try unfold ah);(try unfold bp);k_fill;intro p loose mean mg mb dp un gd cn nm b1 b2 mr a ccd cl outer A₀ base h₀ L m s Q E B F X N T hd hu hret
 refine wpAny_call ?_
 k_dflt (refine' code_def (binds:=[(Str.ofString "code",Value.str (Str.mk #[c]) t)]) ?k1 ?k2 ?k3 ?k4 ?k5 ?kA ?kF ?kK ?k6 ?k7 ?k8 ?k9 ?kB ?_ ?c2 ?c3 ?c4 ?c5;(case kA=>exact rfl);(case kF=>exact rfl);(case kK=>exact rfl);(case k1=>k_asm);(case k2=>k_asm);(case k3=>k_asm);(case k4=>k_asm);(case k5=>k_asm);(case k6=>k_is);(case k7=>k_is);(case k8=>ktr_room);(case k9=>first | exact BindsTo.of_eq rfl | (refine' kp_binds ?kx ?ke;(case kx=>k_in);(case ke=>exact fun _=>rfl)));(case c5=>decide);(case kB=>exact locs rfl);(case c2=>exact rfl);(case c3=>exact rfl);(case c4=>exact rfl);k_whole;intro g' L' h' FG' F' N' B' X' T';(try dsimp only);(try k_fold))
 k_steps
 unfold aF
 refine pA (Fr.keep (by assumption) _ _ (X' _ _ (by rfl))) ?_
 k_steps
 unfold aF
 refine BP (Fr.keep (by assumption) _ _ (X' _ _ (by rfl))) ?_
 rw [hx]
 dsimp only [Option.getD]
 k_steps
 exact hret _ _ _ _ ⟨rfl,_,rfl⟩ (by k_asm) (by k_asm)
theorem Eh {w:World} {news:List (Addr×Obj)} {c:Nat} {t:Tok} (hx:valueAt (pairsOf (b3O w.params)) (c:Int)=none):az w (.ref 173) [.str (Str.mk #[c]) t] [] 2 news (fun t=>.str (Txt.lower (Str.mk #[c])) t):=by
 (try unfold az);(try unfold ah);(try unfold bp);k_fill;intro p loose mean mg mb dp un gd cn nm b1 b2 mr a ccd cl outer A₀ base h₀ L m s Q E B F X N T hd hu hret
 refine wpAny_call ?_
 k_dflt (refine' code_def (binds:=[(Str.ofString "code",Value.str (Str.mk #[c]) t)]) ?k1 ?k2 ?k3 ?k4 ?k5 ?kA ?kF ?kK ?k6 ?k7 ?k8 ?k9 ?kB ?_ ?c2 ?c3 ?c4 ?c5;(case kA=>exact rfl);(case kF=>exact rfl);(case kK=>exact rfl);(case k1=>k_asm);(case k2=>k_asm);(case k3=>k_asm);(case k4=>k_asm);(case k5=>k_asm);(case k6=>k_is);(case k7=>k_is);(case k8=>ktr_room);(case k9=>first | exact BindsTo.of_eq rfl | (refine' kp_binds ?kx ?ke;(case kx=>k_in);(case ke=>exact fun _=>rfl)));(case c5=>decide);(case kB=>exact locs rfl);(case c2=>exact rfl);(case c3=>exact rfl);(case c4=>exact rfl);k_whole;intro g' L' h' FG' F' N' B' X' T';(try dsimp only);(try k_fold))
 k_steps
 unfold aF
 refine pA (Fr.keep (by assumption) _ _ (X' _ _ (by rfl))) ?_
 k_steps
 unfold aF
 refine BP (Fr.keep (by assumption) _ _ (X' _ _ (by rfl))) ?_
 rw [hx]
 dsimp only [Option.getD]
 k_steps
 dsimp only
 refine SCL.lower (by simp [Str.length]) fun _=>?_
 k_steps
 exact hret _ _ _ _ ⟨rfl,_,rfl⟩ (by k_asm) (by k_asm)
end Mine
end
section
namespace Mine
theorem xY {low high:Nat} {ps:List (Nat×Nat)} {x y:Nat}:(x,y)∈stepH low ps high↔(x,y)∈ps∨(x=low∧y=high):=by
 unfold stepH
 split
 ·rename_i h
  have hm:(low,high)∈ps:=mem_highs.mp (by simpa using h)
  constructor
  ·exact .inl
  ·rintro (h | ⟨rfl,rfl⟩)
   ·exact h
   ·exact hm
 ·simp [List.mem_append]
theorem xZ {low:Nat}:∀ (hs:List Nat) {ps:List (Nat×Nat)} {x y:Nat},(x,y)∈hs.foldl (stepH low) ps↔(x,y)∈ps∨(x=low∧y∈hs):=by
 intro zz
 induction zz with
 | nil =>
  intro _ _ _
  simp
 | cons h hs ih =>
  intro ps x y
  rw [List.foldl_cons,ih,xY]
  simp only [List.mem_cons]
  constructor
  ·rintro ((h | ⟨rfl,rfl⟩) | ⟨rfl,h⟩) <;> simp_all
  ·rintro (h | ⟨rfl,rfl | h⟩) <;> simp_all
theorem pB {b low:Nat} {ps:List (Nat×Nat)} {x y:Nat}:(x,y)∈stepL b ps low↔(x,y)∈ps∨(x=low∧(y=b∨(b,y)∈ps)):=by
 unfold stepL
 rw [xZ,List.mem_cons,mem_highs]
theorem x5 {b:Nat}:∀ (ls:List Nat) {ps:List (Nat×Nat)} {x y:Nat},b∉ls→((x,y)∈ls.foldl (stepL b) ps↔(x,y)∈ps∨(x∈ls∧(y=b∨(b,y)∈ps))):=by
 intro zz
 induction zz with
 | nil =>
  intro _ _ _ _
  simp
 | cons l ls ih =>
  intro ps x y hb
  have hl:b≠l:=fun e=>hb (e▸.head _)
  rw [List.foldl_cons,ih fun h=>hb (.tail _ h),pB,pB]
  simp only [List.mem_cons]
  constructor
  ·rintro ((h | ⟨rfl,h⟩) | ⟨h1,h2 | h2 | ⟨h2,_⟩⟩)
   ·exact .inl h
   ·exact .inr ⟨.inl rfl,h⟩
   ·exact .inr ⟨.inr h1,.inl h2⟩
   ·exact .inr ⟨.inr h1,.inr h2⟩
   ·exact absurd h2 hl
  ·rintro (h | ⟨rfl | h1,h2 | h2⟩)
   ·exact .inl (.inl h)
   ·exact .inl (.inr ⟨rfl,.inl h2⟩)
   ·exact .inl (.inr ⟨rfl,.inr h2⟩)
   ·exact .inr ⟨h1,.inl h2⟩
   ·exact .inr ⟨h1,.inr (.inl h2)⟩
theorem lP {a b:Nat} {ps:List (Nat×Nat)} {x y:Nat}:(x,y)∈grown a b ps↔(x,y)∈ps∨((a≠b∧(b,a)∉ps)∧(x=a∨(x,a)∈ps)∧(y=b∨(b,y)∈ps)):=by
 unfold grown
 have hc:(highs ps b).contains a=false↔(b,a)∉ps:=by
  rw [← mem_highs]
  simp
 split
 ·rename_i h
  rw [hc] at h
  rw [x5]
  ·rw [List.mem_cons,mem_lows]
   constructor
   ·rintro (q | q)
    ·exact .inl q
    ·exact .inr ⟨h,q⟩
   ·rintro (q | ⟨_,q⟩)
    ·exact .inl q
    ·exact .inr q
  ·rw [List.mem_cons,mem_lows]
   rintro (e | e)
   ·exact h.1 e.symm
   ·exact h.2 e
 ·rename_i h
  rw [hc] at h
  exact ⟨.inl,fun q=>q.elim id fun q=>absurd q.1 h⟩
theorem Ei:((List.range 32).all fun x=>(List.range 32).all fun y=>decide (0≤PySem.Builtin.bitOr (x:Int) (y:Int)∧PySem.Builtin.bitOr (x:Int) (y:Int) < 32) && (List.range 5).all fun k=>decide (bit (PySem.Builtin.bitOr (x:Int) (y:Int)) k≠0↔(bit (x:Int) k≠0∨bit (y:Int) k≠0)))=true:=by decide +kernel
theorem BQ:((List.range 5).all fun h=>decide (0≤(1 * 2 ^ h:Int)∧(1 * 2 ^ h:Int) < 32) && (List.range 5).all fun k=>decide (bit (1 * 2 ^ h:Int) k≠0↔k=h))=true:=by decide +kernel
theorem sV {x y:Int} (hx:0≤x∧x < 32) (hy:0≤y∧y < 32):(0≤PySem.Builtin.bitOr x y∧PySem.Builtin.bitOr x y < 32)∧∀ k < 5,(bit (PySem.Builtin.bitOr x y) k≠0↔(bit x k≠0∨bit y k≠0)):=by
 obtain ⟨a,rfl⟩:=Int.eq_ofNat_of_zero_le hx.1
 obtain ⟨b,rfl⟩:=Int.eq_ofNat_of_zero_le hy.1
 have h:=List.all_eq_true.mp (List.all_eq_true.mp Ei a (List.mem_range.mpr (by lia))) b (List.mem_range.mpr (by lia))
 rw [Bool.and_eq_true] at h
 exact ⟨of_decide_eq_true h.1,fun k hk=>of_decide_eq_true (List.all_eq_true.mp h.2 k (List.mem_range.mpr hk))⟩
theorem rB {h:Nat} (hh:h < 5):(0≤(1 * 2 ^ h:Int)∧(1 * 2 ^ h:Int) < 32)∧∀ k < 5,(bit (1 * 2 ^ h:Int) k≠0↔k=h):=by
 have q:=List.all_eq_true.mp BQ h (List.mem_range.mpr hh)
 rw [Bool.and_eq_true] at q
 exact ⟨of_decide_eq_true q.1,fun k hk=>of_decide_eq_true (List.all_eq_true.mp q.2 k (List.mem_range.mpr hk))⟩
structure Masks (up:List Int):Prop where
 len:up.length=5
 low:∀ k < 5,0≤up.getD k 0∧up.getD k 0 < 32
theorem nR {f:Nat→Int} {k:Nat} (hk:k < 5):((List.range 5).map f).getD k 0=f k:=by
 rw [List.getD_eq_getElem?_getD,List.getElem?_map,List.getElem?_range hk];rfl
theorem sW {up:List Int} (M:Masks up) {lo hi k:Nat} (hh:hi < 5) (hk:k < 5):0≤et up lo hi k∧et up lo hi k < 32:=by
 unfold et
 split
 ·exact (sV (sV (M.low k hk) (rB hh).1).1 (M.low hi hh)).1
 ·exact M.low k hk
theorem Masks.step {up:List Int} (M:Masks up) {lo hi:Nat} (hh:hi < 5):Masks (bP up lo hi):=by
 unfold bP
 split
 ·exact ⟨by simp,fun k hk=>by rw [nR hk];exact sW M hh hk⟩
 ·exact M
theorem BR {up:List Int} (M:Masks up) {lo hi x y:Nat} (hl:lo < 5) (hh:hi < 5) (hx:x < 5) (hy:y < 5):bit ((bP up lo hi).getD x 0) y≠0↔bit (up.getD x 0) y≠0∨((lo≠hi∧bit (up.getD hi 0) lo=0)∧(x=lo∨bit (up.getD x 0) lo≠0)∧(y=hi∨bit (up.getD hi 0) y≠0)):=by
 unfold bP
 split
 ·rename_i h
  rw [nR hx]
  unfold et
  split
  ·rename_i h2
   rw [(sV (sV (M.low x hx) (rB hh).1).1 (M.low hi hh)).2 y hy,(sV (M.low x hx) (rB hh).1).2 y hy,(rB hh).2 y hy]
   simp only [h,h2,ne_eq,not_false_eq_true,and_self,true_and,or_assoc]
  ·rename_i h2
   exact ⟨.inl,fun q=>q.elim id fun q=>absurd q.2.1 h2⟩
 ·rename_i h
  exact ⟨.inl,fun q=>q.elim id fun q=>absurd q.1 h⟩
noncomputable def ae (x:Nat):Nat:=five.getD x 0
theorem bk {x:Nat} (h:x < 5):ae x∈five:=by
 have:∀ x∈List.range 5,ae x∈five:=by decide
 exact this x (List.mem_range.mpr h)
theorem dZ {c:Nat} (h:c∈five):five.idxOf c < 5:=List.idxOf_lt_length_of_mem h
theorem nS {c x:Nat} (h:c∈five) (hx:x < 5):x=five.idxOf c↔ae x=c:=by
 have:∀ c∈five,∀ x∈List.range 5,(x=five.idxOf c↔ae x=c):=by decide
 exact this c h x (List.mem_range.mpr hx)
theorem iZ {c:Nat} (h:c∈five):ae (five.idxOf c)=c:=(nS h (dZ h)).mp rfl
noncomputable def bQ (cs:List Nat):Nat→List (Nat×Nat)
 | 0=>[]
 | k + 1=>grown (cs.getD (2 * k) 0) (cs.getD (2 * k + 1) 0) (bQ cs k)
theorem cV {cs:List Nat} (hcs:cs.length=10) (h5:∀ c∈cs,c∈five) {k:Nat} (hk:k < 10):cs.getD k 0∈five:=h5 _ (by rw [List.getD_eq_getElem?_getD,List.getElem?_eq_getElem (by lia)];exact List.getElem_mem _)
theorem nU {cs:List Nat} (hcs:cs.length=10) (h5:∀ c∈cs,c∈five):∀ k≤5,Masks (aw cs k)
 | 0,_=>⟨rfl,show ∀ k < 5,0≤([0,0,0,0,0]:List Int).getD k 0∧([0,0,0,0,0]:List Int).getD k 0 < 32 by decide⟩
 | k + 1,hk=>(nU hcs h5 k (by lia)).step (dZ (cV hcs h5 (by lia)))
theorem ip {cs:List Nat} (hcs:cs.length=10) (h5:∀ c∈cs,c∈five):∀ k≤5,Good (bQ cs k):=by
 intro zz
 induction zz with
 | zero =>
  intro _
  exact ⟨List.nodup_nil,fun _ h=>(nomatch h)⟩
 | succ k ih =>
  intro hk
  exact (ih (by lia)).grown (cV hcs h5 (by lia)) (cV hcs h5 (by lia))
theorem x6 {cs:List Nat} (hcs:cs.length=10) (h5:∀ c∈cs,c∈five):∀ k≤5,∀ x < 5,∀ y < 5,(bit ((aw cs k).getD x 0) y≠0↔(ae x,ae y)∈bQ cs k):=by
 intro zz
 induction zz with
 | zero =>
  intro _ x hx y hy
  have:∀ x∈List.range 5,∀ y∈List.range 5,bit (([0,0,0,0,0]:List Int).getD x 0) y=0:=by decide
  exact ⟨fun h=>absurd (this x (List.mem_range.mpr hx) y (List.mem_range.mpr hy)) h,fun h=>(nomatch h)⟩
 | succ k ih =>
  intro hk x hx y hy
  have ih:=ih (by lia)
  have ha:=cV hcs h5 (k:=2 * k) (by lia)
  have hb:=cV hcs h5 (k:=2 * k + 1) (by lia)
  have e0:=ih _ (dZ hb) _ (dZ ha)
  rw [iZ hb,iZ ha] at e0
  have e1:=ih x hx _ (dZ ha)
  rw [iZ ha] at e1
  have e2:=ih _ (dZ hb) y hy
  rw [iZ hb] at e2
  have e3:five.idxOf (cs.getD (2 * k) 0)≠five.idxOf (cs.getD (2 * k + 1) 0)↔cs.getD (2 * k) 0≠cs.getD (2 * k + 1) 0:=by
   exact not_congr (by rw [nS hb (dZ ha),iZ ha])
  have e4:bit ((aw cs k).getD (five.idxOf (cs.getD (2 * k + 1) 0)) 0) (five.idxOf (cs.getD (2 * k) 0))=0↔(cs.getD (2 * k + 1) 0,cs.getD (2 * k) 0)∉bQ cs k:=by
   rw [← e0];exact ⟨fun h q=>q h,fun h=>Classical.not_not.mp h⟩
  show bit ((bP (aw cs k) _ _).getD x 0) y≠0↔_∈grown _ _ (bQ cs k)
  rw [BR (nU hcs h5 k (by lia)) (dZ ha) (dZ hb) hx hy,lP,ih x hx y hy,e1,e2,e3,e4,nS ha hx,nS hb hy]
structure Ord (ps:List (Nat×Nat)):Prop where
 trans:∀ x y z,(x,y)∈ps→(y,z)∈ps→(x,z)∈ps
 irr:∀ x,(x,x)∉ps
theorem Ord.grown {ps:List (Nat×Nat)} (O:Ord ps) (a b:Nat):Ord (grown a b ps):=by
 refine ⟨fun x y z h1 h2=>?_,fun x h=>?_⟩
 ·rw [lP] at h1 h2 ⊢
  rcases h1 with h1 | ⟨hab,hx,hy⟩
  ·rcases h2 with h2 | ⟨hab,hy,hz⟩
   ·exact .inl (O.trans _ _ _ h1 h2)
   ·refine .inr ⟨hab,?_,hz⟩
    rcases hy with rfl | hy
    ·exact .inr h1
    ·exact .inr (O.trans _ _ _ h1 hy)
  ·rcases h2 with h2 | ⟨_,hy',hz⟩
   ·refine .inr ⟨hab,hx,?_⟩
    rcases hy with rfl | hy
    ·exact .inr h2
    ·exact .inr (O.trans _ _ _ hy h2)
   ·exact .inr ⟨hab,hx,hz⟩
 ·rw [lP] at h
  rcases h with h | ⟨⟨hab,hba⟩,hx,hy⟩
  ·exact O.irr x h
  ·rcases hx with rfl | hx
   ·rcases hy with e | hy
    ·exact hab e
    ·exact hba hy
   ·rcases hy with rfl | hy
    ·exact hba hx
    ·exact hba (O.trans _ _ _ hy hx)
theorem rC (cs:List Nat):∀ k,Ord (bQ cs k):=by
 intro zz
 induction zz with
 | zero =>
  exact ⟨fun _ _ _ h=>(nomatch h),fun _ h=>(nomatch h)⟩
 | succ k ih =>
  exact ih.grown _ _
end Mine
end
section
namespace Mine
open PySem.Builtin.Str StrLaws
theorem pC {e:Nat→List Nat} {y z:Str} (h:z.cps.toList.flatMap e=y.cps.toList.flatMap e):∀ parts:List Str,(Str.join z parts).cps.toList.flatMap e=(Str.join y parts).cps.toList.flatMap e
 | []=>rfl
 | [p]=>rfl
 | p :: q :: r => by
  have ih:=pC h (q::r)
  show (p++z++Str.join z (q::r)).cps.toList.flatMap e=(p++y++Str.join y (q::r)).cps.toList.flatMap e
  simp only [Str.cps_append,Array.toList_append,List.flatMap_append]
  rw [ih,h]
theorem lq {e:Nat→List Nat} {x y z:Str} (h:z.cps.toList.flatMap e=y.cps.toList.flatMap e):(Txt.replace x y z).cps.toList.flatMap e=x.cps.toList.flatMap e:=by
 unfold Txt.replace
 split
 ·rfl
 ·obtain ⟨f,hc⟩:=occ_chain x y (x.length + 1)
  rw [glued_eq_join,partsBetween_eq,pC h,join_partsFrom x y _ 0 f hc,sub_whole]
noncomputable def dF (P:Params) (c:Nat):List Nat:=if b1L.contains (c:Int) then [] else match valueAt (pairsOf (b3O P)) (c:Int) with
 | some (.str x _)=>x.cps.toList
 | _=>(Txt.lower (one c)).cps.toList
noncomputable def unitsL:List (Str×Str):=[("hpa",13169),("kpa",13226),("mpa",13227),("ppm",13273),("hp",13259),("ph",13271),("pa",13184),("ka",13188),("ma",13187),("km",13262),("kk",13261)].map fun u=>(Str.ofString u.1,one u.2)
noncomputable def hiddenL:List Nat:=[173,847,6150,6155,6156,6157,8203,8204,8205,8288,65279]++(List.range 16).map (65024 + ·)
noncomputable def alphL:List Nat:=[0,1,2,4,7,8,9,10,11,12]
noncomputable def variant (c suit:Nat):Nat:=if suit < 10 then 119808 + 52 * alphL.getD suit 0 + c - 97 else if suit=10 then upC c else c
theorem ui (P:Params):(unitsL.all fun u=>u.2.cps.toList.flatMap (dF P)==u.1.cps.toList.flatMap (dF P))=true:=by kernel_rfl
theorem sX (P:Params):(hiddenL.all fun c=>dF P c==[])=true:=by kernel_rfl
theorem rE (P:Params):(five.all fun c=>(List.range 12).all fun s=>dF P (variant c s)==[c])=true:=by kernel_rfl
theorem pD (P:Params):(five.all fun c=>dF P c==[c])=true:=by kernel_rfl
noncomputable def aQ (x:Str) (seed:Int):Nat→Str
 | 0=>x
 | k + 1=>if (seed.fdiv (2 ^ k)).fmod 2=0 then Txt.replace (aQ x seed k) (unitsL.getD k default).1 (unitsL.getD k default).2 else aQ x seed k
theorem uj (P:Params) (x:Str) (seed:Int):∀ k≤11,(aQ x seed k).cps.toList.flatMap (dF P)=x.cps.toList.flatMap (dF P):=by
 intro zz
 induction zz with
 | zero =>
  intro _
  exact rfl
 | succ k ih =>
  intro hk
  unfold aQ
  split
  ·have hk':k < unitsL.length:=hk
   have hm:unitsL.getD k default∈unitsL:=by rw [List.getD_eq_getElem?_getD,List.getElem?_eq_getElem hk'];exact List.getElem_mem _
   rw [lq (by simpa using List.all_eq_true.mp (ui P) _ hm)]
   exact ih (by omega)
  ·exact ih (by omega)
noncomputable def lQ (seed:Int) (k:Nat):Nat:=((seed.fdiv 3 + 5 * (k:Int)).fmod 12).toNat
noncomputable def signOf (seed:Int) (k c:Nat):Nat:=if five.contains c then variant c (lQ seed k) else c
noncomputable def preOf (seed:Int) (k:Nat):List Nat:=if ((seed.fdiv 648 + (k:Int)).fmod 3).toNat=0 then [hiddenL.getD ((seed.fdiv 24 + 11 * (k:Int)).fmod 27).toNat 0] else []
noncomputable def bJ (seed:Int):Nat→List Nat→List Nat
 | _,[]=>[]
 | k,c::r=>preOf seed k++signOf seed k c::bJ seed (k + 1) r
theorem wV (seed:Int) (k:Nat):lQ seed k < 12:=by
 unfold lQ
 have h1:=Int.fmod_nonneg_of_pos (seed.fdiv 3 + 5 * (k:Int)) (show (0:Int) < 12 by decide)
 have h2:=Int.fmod_lt_of_pos (seed.fdiv 3 + 5 * (k:Int)) (show (0:Int) < 12 by decide)
 omega
theorem BS (P:Params) (seed:Int) (k:Nat):(preOf seed k).flatMap (dF P)=[]:=by
 unfold preOf
 split
 ·have h1:=Int.fmod_nonneg_of_pos (seed.fdiv 24 + 11 * (k:Int)) (show (0:Int) < 27 by decide)
  have h2:=Int.fmod_lt_of_pos (seed.fdiv 24 + 11 * (k:Int)) (show (0:Int) < 27 by decide)
  have hk':((seed.fdiv 24 + 11 * (k:Int)).fmod 27).toNat < hiddenL.length:=by
   have:hiddenL.length=27:=rfl
   omega
  have hm:hiddenL.getD ((seed.fdiv 24 + 11 * (k:Int)).fmod 27).toNat 0∈hiddenL:=by rw [List.getD_eq_getElem?_getD,List.getElem?_eq_getElem hk'];exact List.getElem_mem _
  have:=List.all_eq_true.mp (sX P) _ hm
  simpa using this
 ·rfl
theorem x7 (P:Params) (seed:Int) (k c:Nat):dF P (signOf seed k c)=dF P c:=by
 unfold signOf
 split
 ·rename_i h
  have hc:c∈five:=by simpa using h
  have h1:=List.all_eq_true.mp (List.all_eq_true.mp (rE P) c hc) _ (List.mem_range.mpr (wV seed k))
  have h2:=List.all_eq_true.mp (pD P) c hc
  rw [eq_of_beq h1,eq_of_beq h2]
 ·rfl
theorem uk (P:Params) (seed:Int):∀ (l:List Nat) (k:Nat),(bJ seed k l).flatMap (dF P)=l.flatMap (dF P):=by
 intro zz
 induction zz with
 | nil =>
  intro _
  exact rfl
 | cons c r ih =>
  intro k
  unfold bJ
  rw [List.flatMap_append,BS,List.nil_append,List.flatMap_cons,List.flatMap_cons,x7,ih]
theorem x8 (P:Params):∀ cs:List Nat,(∀ c∈cs,c∈five)→cs.flatMap (dF P)=cs:=by
 intro zz
 induction zz with
 | nil =>
  intro _
  exact rfl
 | cons c r ih =>
  intro h
  rw [List.flatMap_cons,eq_of_beq (List.all_eq_true.mp (pD P) c (h c (.head _))),ih fun x hx=>h x (.tail _ hx)]
  rfl
noncomputable def f5 (cs:List Nat) (seed:Int):List Nat:=bJ seed 0 (aQ (Str.mk cs.toArray) seed 11).cps.toList
theorem BU (P:Params) {cs:List Nat} (h:∀ c∈cs,c∈five) (seed:Int):(f5 cs seed).flatMap (dF P)=cs:=by
 unfold f5
 rw [uk,uj P _ _ 11 (by decide)]
 exact x8 P cs h
end Mine
end
section
namespace Mine
open PySem.Builtin.Str StrLaws
theorem sY {y z:Str} (h:z.length≤y.length):∀ parts:List Str,(Str.join z parts).length≤(Str.join y parts).length
 | []=>Nat.le_refl _
 | [p]=>Nat.le_refl _
 | p :: q :: r => by
  have ih:=sY h (q::r)
  show (p++z++Str.join z (q::r)).length≤(p++y++Str.join y (q::r)).length
  simp only [Str.length,Str.cps_append,Array.size_append] at *
  lia
theorem sZ {x y z:Str} (h:z.length≤y.length):(Txt.replace x y z).length≤x.length:=by
 unfold Txt.replace
 split
 ·exact Nat.le_refl _
 ·obtain ⟨f,hc⟩:=occ_chain x y (x.length + 1)
  rw [glued_eq_join,partsBetween_eq]
  refine Nat.le_trans (sY h _) ?_
  rw [join_partsFrom x y _ 0 f hc,sub_whole]
  exact Nat.le_refl _
theorem lT (x:Str) (seed:Int):∀ k≤11,(aQ x seed k).length≤x.length:=by
 intro zz
 induction zz with
 | zero =>
  intro _
  exact Nat.le_refl _
 | succ k ih =>
  intro hk
  unfold aQ
  split
  ·refine Nat.le_trans (sZ ?_) (ih (by lia))
   have:(unitsL.all fun u=>decide (u.2.length≤u.1.length))=true:=by kernel_rfl
   have hk':k < unitsL.length:=hk
   have hm:unitsL.getD k default∈unitsL:=by rw [List.getD_eq_getElem?_getD,List.getElem?_eq_getElem hk'];exact List.getElem_mem _
   simpa using List.all_eq_true.mp this _ hm
  ·exact ih (by lia)
noncomputable def um:List (Str×Str):=[(Str.ofString "hpa",Str.ofString "㍱"),(Str.ofString "kpa",Str.ofString "㎪"),(Str.ofString "mpa",Str.ofString "㎫"),(Str.ofString "ppm",Str.ofString "㏙"),(Str.ofString "hp",Str.ofString "㏋"),(Str.ofString "ph",Str.ofString "㏗"),(Str.ofString "pa",Str.ofString "㎀"),(Str.ofString "ka",Str.ofString "㎄"),(Str.ofString "ma",Str.ofString "㎃"),(Str.ofString "km",Str.ofString "㏎"),(Str.ofString "kk",Str.ofString "㏍")]
theorem BV:unitsL=um:=by kernel_rfl
theorem pE {c:Nat} (h:c∈five):97≤c∧c≤112:=by
 have:(five.all fun c=>decide (97≤c∧c≤112))=true:=by kernel_rfl
 simpa using List.all_eq_true.mp this c h
theorem s7:(Str.ofString "ahkmp").cps.toList=five:=by kernel_rfl
theorem BW:(List.range 10).all (fun k=>decide (([0,1,2,4,7,8,9,10,11,12]:List Int).getD k 0=((alphL.getD k 0:Nat):Int)∧alphL.getD k 0≤12))=true:=by kernel_rfl
theorem Ej:(List.range 27).all (fun k=>decide ((([173,847,6150,6155,6156,6157,8203,8204,8205,8288,65279]:List Int)++(List.range 16).map fun i=>Int.ofNat (65024 + i)).getD k 0=((hiddenL.getD k 0:Nat):Int)∧hiddenL.getD k 0≤65279))=true:=by kernel_rfl
theorem tn {s:Int} {n:Nat} (h0:0≤s) (h:s < (n:Int)):s.toNat < n:=(Int.toNat_lt h0).mpr h
theorem pF {x:Int} (h0:0≤x) (h1:x < 10):([0,1,2,4,7,8,9,10,11,12]:List Int).getD x.toNat 0=((alphL.getD x.toNat 0:Nat):Int)∧alphL.getD x.toNat 0≤12:=of_decide_eq_true (List.all_eq_true.mp BW x.toNat (List.mem_range.mpr (tn h0 h1)))
theorem BX {x:Int} (h0:0≤x) (h1:x < 27):(([173,847,6150,6155,6156,6157,8203,8204,8205,8288,65279]:List Int)++(List.range 16).map fun i=>Int.ofNat (65024 + i)).getD x.toNat 0=((hiddenL.getD x.toNat 0:Nat):Int)∧hiddenL.getD x.toNat 0≤65279:=of_decide_eq_true (List.all_eq_true.mp Ej x.toNat (List.mem_range.mpr (tn h0 h1)))
theorem JI {a c:Nat} (ha:a≤12) (h:97≤c∧c≤112):0≤119808 + 52 * (a:Int) + (c:Int) - 97∧119808 + 52 * (a:Int) + (c:Int) - 97≤1114111:=by lia
theorem uo {s:Int} (h:¬ s < 10) (h1:s < 12):(0≤s - 10∧(s - 10).toNat < 2)∧(s=10∨s=11):=by lia
theorem BY {s:Int} (h:0≤s) (h1:s < 3):s=0∨s=1∨s=2:=by lia
theorem sg (a c:Nat):(119808 + 52 * (a:Int) + (c:Int) - 97).toNat=119808 + 52 * a + c - 97:=by lia
theorem Ek {seed:Int} {i c:Nat} (h:c∈five) (h0:0≤(seed.fdiv 3 + 5 * (i:Int)).fmod 12) (h1:(seed.fdiv 3 + 5 * (i:Int)).fmod 12 < 10):(119808 + 52 * ([0,1,2,4,7,8,9,10,11,12]:List Int).getD ((seed.fdiv 3 + 5 * (i:Int)).fmod 12).toNat 0 + (c:Int) - 97).toNat=signOf seed i c:=by
 have hc:=pE h
 obtain ⟨e,hb⟩:=pF h0 h1
 have h5:five.contains c=true:=by simpa using h
 unfold signOf variant lQ
 rw [if_pos h5,if_pos (tn h0 h1),e]
 exact sg _ _
theorem El {seed:Int} {i c:Nat} (h:c∈five) (h1:(seed.fdiv 3 + 5 * (i:Int)).fmod 12=10):upC c=signOf seed i c:=by
 have h5:five.contains c=true:=by simpa using h
 unfold signOf variant lQ
 rw [if_pos h5,h1];rfl
theorem BZ {seed:Int} {i c:Nat} (h:c∈five) (h1:(seed.fdiv 3 + 5 * (i:Int)).fmod 12=11):c=signOf seed i c:=by
 have h5:five.contains c=true:=by simpa using h
 unfold signOf variant lQ
 rw [if_pos h5,h1];rfl
theorem B0 {seed:Int} {i c:Nat} (h:¬ c∈five):c=signOf seed i c:=by
 have h5:five.contains c=false:=by simpa using h
 unfold signOf
 rw [h5];rfl
theorem uq (seed:Int) (c:Nat):∀ (l:List Nat) (k:Nat),bJ seed k (l++[c])=bJ seed k l++(preOf seed (k + l.length)++[signOf seed (k + l.length) c]):=by
 intro zz
 induction zz with
 | nil =>
  intro k
  simp [bJ]
 | cons x l ih =>
  intro k
  have ih:=ih (k + 1)
  simp only [List.cons_append,bJ,List.length_cons]
  rw [ih,show k + 1 + l.length=k + (l.length + 1) by lia]
  simp
theorem ur {seed:Int} {cs:List Nat} {i c:Nat} (h:cs[i]?=some c) {x:List Nat} (hx:x=preOf seed i):Str.mk (bJ seed 0 (cs.take (i + 1))).toArray=Str.mk (bJ seed 0 (cs.take i)).toArray++(Str.mk x.toArray++Str.mk #[signOf seed i c]):=by
 have hi:i < cs.length:=(List.getElem?_eq_some_iff.mp h).1
 have e:cs.take (i + 1)=cs.take i++[c]:=by rw [List.take_add_one,h];rfl
 rw [e,uq,List.length_take,Nat.min_eq_left (by lia),Nat.zero_add,hx]
 have:∀ a b:Str,a.cps=b.cps→a=b:=fun a b h=>by cases a;cases b;obtain rfl:=h;rfl
 apply this
 simp [Str.cps_append]
theorem wW (seed:Int) (k:Nat):(preOf seed k).length≤1:=by
 unfold preOf
 split
 ·exact Nat.le_refl _
 ·exact Nat.zero_le _
theorem pG (seed:Int):∀ (l:List Nat) (k:Nat),(bJ seed k l).length≤2 * l.length:=by
 intro zz
 induction zz with
 | nil =>
  intro _
  exact Nat.le_refl _
 | cons c r ih =>
  intro k
  have:=ih (k + 1)
  have:=wW seed k
  simp only [bJ,List.length_append,List.length_cons] at *
  lia
theorem AllIs.ints9:∀ {ns:List Int} {xs:List Value},AllIs (ns.map .i) xs→IntsAre xs ns
 | [],_,h=>by cases h;exact .nil
 | n :: ns, _, h => by
  cases h with | cons h1 h2=>obtain ⟨t,rfl⟩:=h1;exact .cons _ _ (AllIs.ints9 h2)
theorem ints_get:∀ {vs:List Value} {ns:List Int},IntsAre vs ns→∀ i < ns.length,∃ t,vs.getD i .none=.int (ns.getD i 0) t:=by
 intro z0 z1 zz
 induction zz with
 | nil =>
  intro i h
  exact absurd h (Nat.not_lt_zero _)
 | cons n t r ih =>
  intro i h
  cases i with
  | zero=>exact ⟨t,rfl⟩
  | succ i=>exact ih i (Nat.lt_of_succ_lt_succ h)
theorem uu {w:World} {news:List (Addr×Obj)} {cs:List Nat} {seed:Int} {t t':Tok} (hcs:cs.length=10) (h5:∀ c∈cs,c∈five) :
  ah w (.ref 335) [.str (Str.mk cs.toArray) t,.int seed t'] [] 5 news (fun v nx=>nx=news∧∃ t,v=.str (Str.mk (f5 cs seed).toArray) t):=by
 refine GO (D:=4) [(Str.ofString "letters",Value.str (Str.mk cs.toArray) t),(Str.ofString "seed",Value.int seed t')] rfl rfl (fun s _=>BindsTo.of_eq rfl) rfl rfl nofun fun C hC hcl Q hr hn hw=>?_
 have ok:=Cx.fmOk hC
 refine xy ok ?_
 refine @xA (C.fm w _) _ _ ok _ _ _ _ _ um _ ?_ (by decide) fun U as Z hZ=>?_
 ·unfold um
  repeat (first | exact .nil | refine .cons _ _ _ _ _ _ _ _ ?_)
 refine And.intro rfl ?_
 refine bj ok (aD rfl) fun D0 x0 hx0 hD0=>?_
 refine xx ok rfl rfl fun r t1 u1 v1 hr0=>?_
 refine rg hC (.head _) rfl (n:=16) rfl (by decide) fun D1 ys k1 hys hD1=>?_
 refine nz ok (.tail _ (.tail _ (.head _))) (.head _) ?_ fun D2 hD2=>?_
 ·rw [hx0.length,hys.length];decide
 refine mu hC ?_ ⟨rfl,rfl,rfl⟩
 have hU:as.length=11:=hZ.length
 generalize hR:(D2,W.listOf (x0++ys).toArray 0)::(D1,W.listOf ys.toArray k1)::(r,oz 65024 65040 t1 u1 v1)::(D0,W.listOf x0.toArray 0)::((U,W.listOf as.toArray 0)::Z++news)=R
 have mU:(U,W.listOf as.toArray 0)∈R:=hR▸.tail _ (.tail _ (.tail _ (.tail _ (.head _))))
 refine pe hC (l:=U) (vs:=as) (fun z:Str=>[(Str.ofString "letters",.s z),(Str.ofString "seed",.v (.int seed t')),(Str.ofString "hidden",.v (.ref D2))]) (fun _=>R) (fun i z=>z=aQ (Str.mk cs.toArray) seed i) (Str.mk cs.toArray) (fun _ _ _=>mU) ⟨rfl,⟨rfl,rfl,rfl,trivial⟩,fun _ h=>h⟩ (fun i c its hi hP hap Q' hQ hret=>?_) (fun c hP=>?_)
 ·have hi':i < as.length:=hi
  have hi11:i < 11:=hU▸hi'
  obtain ⟨a9,x9,y9,t9,u9,hv9,hu9,hm9,z1,z2,z3⟩:=hZ.get i as[i] (List.getElem?_eq_getElem hi')
  rw [← BV] at hu9
  refine ⟨.v (.ref a9),its++R,fun v hv=>?_,fun _ h=>h,?_⟩
  ·rw [List.getElem?_eq_getElem hi'] at hv
   cases hv
   exact hv9
  have hm:(a9,({ cls:=.type "tuple",data:=.seq #[.str x9 t9,.str y9 u9] }:Obj))∈its++R:=apR (hR▸.tail _ (.tail _ (.tail _ (.tail _ (.tail _ (apL hm9))))))
  have hlen:=lT (Str.mk cs.toArray) seed i (Nat.le_of_lt hi11)
  refine aq ok ?_
  refine A3 ok rfl rfl (Int.natCast_nonneg _) (Int.ofNat_le.mpr (Nat.le_trans (Nat.le_of_lt hi11) (by decide:11≤1000000))) (by decide) ?_
  have h2:∀ j < 11,(2:Int) ^ ((j:Nat):Int).toNat≠0∧((2:Int) ^ ((j:Nat):Int).toNat).natAbs < 1073741824:=by decide
  refine And.intro (h2 i hi11) ?_
  refine And.intro (by decide) ?_
  refine And.intro (fun hb=>?_) (fun hb=>?_)
  ·refine aN ok (sk rfl PySem.F.slot_str_replace PySem.F.type_str_replace (cwB ok ?_))
   refine sy ok (k:=0) hm rfl rfl (aD rfl) ?_
   refine sy ok (k:=1) hm rfl rfl (aD rfl) ?_
   refine tT ok rfl z1 z2 z3 ?_ ?_ ?_ ?_
   ·have:(unitsL.all fun u => !(u.1==u.2))=true:=by kernel_rfl
    simpa using List.all_eq_true.mp this _ (List.mem_of_getElem? hu9)
   ·exact Nat.le_trans (hP▸hlen) (by simp [Str.length,hcs])
   ·have:(unitsL.all fun u=>decide (u.2.length≤10))=true:=by kernel_rfl
    have h9:y9.length≤10:=by simpa using List.all_eq_true.mp this _ (List.mem_of_getElem? hu9)
    exact Nat.le_trans h9 (by decide)
   refine hQ _ _ (Txt.replace c x9 y9) ?_ ⟨rfl,rfl,rfl,trivial⟩ (fun _ h=>h) hap
   have h1:(seed.fdiv (2 ^ i)).fmod 2=0:=eq_of_beq hb
   have hgl:unitsL.getD i default=(x9,y9):=by rw [List.getD_eq_getElem?_getD,hu9];rfl
   show Txt.replace c x9 y9=aQ (Str.mk cs.toArray) seed (i + 1)
   rw [aQ,if_pos h1,hgl,hP]
  ·refine hQ _ _ c ?_ ⟨rfl,rfl,rfl,trivial⟩ (fun _ h=>h) hap
   have h1:(seed.fdiv (2 ^ i)).fmod 2≠0:=ne_of_beq_false hb
   show c=aQ (Str.mk cs.toArray) seed (i + 1)
   rw [aQ,if_neg h1,hP]
 have hP11:c=aQ (Str.mk cs.toArray) seed 11:=hU▸hP
 have hlen:=lT (Str.mk cs.toArray) seed 11 (Nat.le_refl _)
 have eF:f5 cs seed=bJ seed 0 (aQ (Str.mk cs.toArray) seed 11).cps.toList:=rfl
 rw [← hP11] at hlen eF
 clear hP hP11
 have hX10:c.cps.toList.length≤10:=Nat.le_trans hlen (by simp [Str.length,hcs])
 refine mu hC ?_ ⟨rfl,rfl,rfl⟩
 refine sv hC (z:=c) (fun z:Str=>[(Str.ofString "text",.s z),(Str.ofString "seed",.v (.int seed t')),(Str.ofString "hidden",.v (.ref D2))]) (fun _=>R) (fun i z=>z=Str.mk (bJ seed 0 (c.cps.toList.take i)).toArray) (Str.ofString "") rfl rfl ⟨rfl,⟨rfl,rfl,rfl,trivial⟩,fun _ h=>h⟩ (fun i z its hi hP hap Q' hQ hret=>?_) (fun z hP=>?_)
 ·have hiX:i < c.cps.toList.length:=hi
  obtain ⟨d,hd⟩:∃ d,c.cps.toList[i]?=some d:=⟨_,List.getElem?_eq_getElem hiX⟩
  have hdD:c.cps.toList.getD i 0=d:=by rw [List.getD_eq_getElem?_getD,hd];rfl
  have s0:=Int.fmod_nonneg_of_pos (seed.fdiv 3 + 5 * (i:Int)) (show (0:Int) < 12 by decide)
  have s1:=Int.fmod_lt_of_pos (seed.fdiv 3 + 5 * (i:Int)) (show (0:Int) < 12 by decide)
  rw [hdD]
  refine ⟨its++R,fun _ h=>h,?_⟩
  refine And.intro ⟨by decide,by decide⟩ ?_
  refine And.intro (IntMulOk.of_left (by decide +kernel)) ?_
  refine And.intro (by decide) ?_
  refine meet ok [(Str.ofString "text",.s z),(Str.ofString "seed",.v (.int seed t')),(Str.ofString "hidden",.v (.ref D2)),(Str.ofString "k",.i (i:Int)),(Str.ofString "sign",.s (one (signOf seed i d)))] (its++R) (fun Q2 hQ2=>?_) ?_
  ·refine aq ok ?_
   by_cases h5c:d∈five
   ·have ho:(!(occurrences (Str.ofString "ahkmp") (one d) 0 (Str.ofString "ahkmp").length 1).isEmpty)=true:=by
     unfold one
     rw [empty_one,s7,decide_eq_true h5c];rfl
    have hcc:=pE h5c
    refine sx ok rfl rfl ho ?_
    refine And.intro (fun _=>?_) nofun
    refine ny ok ?_
    refine And.intro (fun hb=>?_) (fun hb=>?_)
    ·have h10:(seed.fdiv 3 + 5 * (i:Int)).fmod 12 < 10:=of_decide_eq_true hb
     obtain ⟨ea,eb⟩:=pF s0 h10
     refine bj ok (aD rfl) fun D3 x3 hx3 hD3=>?_
     obtain ⟨zt,ez⟩:=ints_get (AllIs.ints9 (ns:=[0,1,2,4,7,8,9,10,11,12]) hx3) ((seed.fdiv 3 + 5 * (i:Int)).fmod 12).toNat (tn s0 h10)
     refine aG ok (.i ((alphL.getD ((seed.fdiv 3 + 5 * (i:Int)).fmod 12).toNat 0:Nat):Int)) (.head _) rfl s0 (by rw [hx3.length];exact tn s0 h10) (by rw [hx3.length];decide) ⟨zt,by rw [ez,ea]⟩ ?_
     refine And.intro (IntMulOk.of_left (by decide +kernel)) ?_
     refine GN ok rfl rfl ?_
     refine A4 ok rfl (JI eb hcc).1 (JI eb hcc).2 ?_
     refine hQ2 _ _ ⟨rfl,rfl,rfl,rfl,?_,trivial⟩ fun _ h=>.tail _ h
     rw [← Ek h5c s0 h10,ea]
     rfl
    ·refine aN ok (sk rfl PySem.F.slot_str_upper PySem.F.type_str_upper (GH (nL ok rfl (aD rfl) (upper_one h5c) ?_)))
     refine bj ok (aD rfl) fun D3 x3 hx3 hD3=>?_
     have h10:¬ (seed.fdiv 3 + 5 * (i:Int)).fmod 12 < 10:=of_decide_eq_false hb
     obtain ⟨p1,p2,hp1,hp2⟩:=AllIs.two hx3
     refine aG ok (.s (one (signOf seed i d))) (.head _) rfl (uo h10 s1).1.1 (uo h10 s1).1.2 (aD rfl) ?_ ?_
     ·rcases (uo h10 s1).2 with e | e
      ·rw [← El h5c e,e];exact hp1
      ·rw [← BZ h5c e,e];exact hp2
     exact hQ2 _ _ ⟨rfl,rfl,rfl,rfl,rfl,trivial⟩ fun _ h=>.tail _ h
   ·have ho:(!(occurrences (Str.ofString "ahkmp") (one d) 0 (Str.ofString "ahkmp").length 1).isEmpty)=false:=by
     unfold one
     rw [empty_one,s7,decide_eq_false h5c];rfl
    refine sx ok rfl rfl ho ?_
    refine And.intro nofun fun _=>?_
    refine hQ2 _ _ ⟨rfl,rfl,rfl,rfl,by rw [← B0 (seed:=seed) (i:=i) h5c];rfl,trivial⟩ fun _ h=>h
  ·have f0:=Int.fmod_nonneg_of_pos (seed.fdiv 24 + 11 * (i:Int)) (show (0:Int) < 27 by decide)
   have f1:=Int.fmod_lt_of_pos (seed.fdiv 24 + 11 * (i:Int)) (show (0:Int) < 27 by decide)
   have g0:=Int.fmod_nonneg_of_pos (seed.fdiv 648 + (i:Int)) (show (0:Int) < 3 by decide)
   have g1:=Int.fmod_lt_of_pos (seed.fdiv 648 + (i:Int)) (show (0:Int) < 3 by decide)
   obtain ⟨ec,ed⟩:=BX f0 f1
   have hz:IntsAre (x0++ys) (([173,847,6150,6155,6156,6157,8203,8204,8205,8288,65279]:List Int)++(List.range 16).map fun i=>Int.ofNat (65024 + i)):=IntsAre.append (AllIs.ints9 (ns:=[173,847,6150,6155,6156,6157,8203,8204,8205,8288,65279]) hx0) hys
   have hzl:=hz.length
   have hzl:(x0++ys).length=27:=hzl
   have mH:(D2,W.listOf (x0++ys).toArray 0)∈its++R:=apR (by rw [← hR];exact .head _)
   obtain ⟨zt,ez⟩:=ints_get hz ((seed.fdiv 24 + 11 * (i:Int)).fmod 27).toNat (tn f0 f1)
   refine And.intro ⟨by decide,by decide⟩ ?_
   refine And.intro (IntMulOk.of_left (by decide +kernel)) ?_
   refine And.intro (by decide) ?_
   refine aG ok (.i ((hiddenL.getD ((seed.fdiv 24 + 11 * (i:Int)).fmod 27).toNat 0:Nat):Int)) mH rfl f0 (by rw [hzl];exact tn f0 f1) (by rw [hzl];decide) ⟨zt,by rw [ez,ec]⟩ ?_
   refine A4 ok rfl (Int.natCast_nonneg _) (Int.ofNat_le.mpr (Nat.le_trans ed (by decide:65279≤1114111))) ?_
   refine bj ok (aD rfl) fun D4 x4 hx4 hD4=>?_
   refine And.intro ⟨by decide,by decide⟩ ?_
   refine And.intro (by decide) ?_
   refine aG ok (.s (Str.mk (preOf seed i).toArray)) (.head _) rfl g0 (by rw [hx4.length];exact tn g0 g1) (by rw [hx4.length];exact (aD rfl)) ?_ ?_
   ·cases hx4 with | cons q1 hx4 =>
    cases hx4 with | cons q2 hx4 =>
    cases hx4 with | cons q3 hx4 =>
    cases hx4
    unfold preOf
    rcases BY g0 g1 with e | e | e
    ·rw [e];exact q1
    ·rw [e];exact q2
    ·rw [e];exact q3
   have pl:=wW seed i
   have tl:=pG seed (c.cps.toList.take i) 0
   rw [List.length_take] at tl
   refine And.intro (by rw [sizeLine_eq];simp [Str.length,one];lia) ?_
   refine And.intro (by rw [sizeLine_eq,hP];simp [Str.length,one,Str.cps_append];lia) ?_
   refine hQ _ _ _ ?_ ⟨rfl,rfl,rfl,trivial⟩ (fun p hp=>.tail _ hp) hap
   rw [hP,ur hd rfl]
 ·rw [List.take_length, ← eF] at hP
  refine hw _ _ _ news (fun p hp=>hR▸.tail _ (.tail _ (.tail _ (.tail _ (.tail _ (apR hp)))))) (hr _ _ _ fun y hy=>?_)
  obtain ⟨u,rfl⟩:=hy
  exact ⟨rfl,u,by rw [hP]⟩
end Mine
end
section
namespace Mine
open PySem.Builtin.Str StrLaws
theorem lU:∀ xs:List Str,(Txt.join (Str.ofString "") xs).cps.toList=xs.flatMap fun x=>x.cps.toList:=by
 have h:∀ xs:List Str,(Str.join (Str.ofString "") xs).cps.toList=xs.flatMap fun x=>x.cps.toList:=by
  intro xs
  induction xs with
  | nil=>rfl
  | cons x r ih =>
   cases r with
   | nil=>show x.cps.toList=_;simp
   | cons y r =>
    show (x++Str.ofString ""++Str.join (Str.ofString "") (y::r)).cps.toList=_
    rw [Str.cps_append,Str.cps_append,Array.toList_append,Array.toList_append,ih]
    have e:(Str.ofString "").cps.toList=[]:=rfl
    rw [e,List.append_nil]
    rfl
 intro xs
 unfold Txt.join
 rw [glued_eq_join]
 exact h xs
theorem rG {a b:Str} (h:a.cps.toList=b.cps.toList):a=b:=by
 cases a;cases b
 congr
 exact Array.toList_inj.mp h
theorem nV:∀ xs:List Str,(xs.flatMap fun x=>x.cps.toList).length=(xs.map (·.length)).sum
 | []=>rfl
 | x :: r => by
  rw [List.flatMap_cons,List.length_append,nV r,List.map_cons,List.sum_cons]
  rfl
noncomputable def okE (c:Nat):List Nat:=if c < 1114112 then [] else [c]
theorem Hm {l:List Nat} (h:l.flatMap okE=[]):∀ c∈l,c < 1114112:=by
 intro c hc
 have:=List.flatMap_eq_nil_iff.mp h c hc
 unfold okE at this
 split at this
 ·assumption
 ·cases this
theorem JJ {l:List Nat} (h:∀ c∈l,c < 1114112):l.flatMap okE=[]:=by
 rw [List.flatMap_eq_nil_iff]
 intro c hc
 unfold okE
 rw [if_pos (h c hc)]
theorem ya:(unitsL.all fun u=>u.2.cps.toList.flatMap okE==u.1.cps.toList.flatMap okE)=true:=by decide +kernel
theorem nW (x:Str) (seed:Int):∀ k≤11,(aQ x seed k).cps.toList.flatMap okE=x.cps.toList.flatMap okE
 | 0,_=>rfl
 | k + 1, hk => by
  unfold aQ
  split
  ·have hk':k < unitsL.length:=hk
   have hm:unitsL.getD k default∈unitsL:=by rw [List.getD_eq_getElem?_getD,List.getElem?_eq_getElem hk'];exact List.getElem_mem _
   rw [lq (by simpa using List.all_eq_true.mp ya _ hm)]
   exact nW x seed k (by lia)
  ·exact nW x seed k (by lia)
theorem yb:∀ c∈hiddenL,c < 1114112:=by decide
theorem uw:∀ c∈five,∀ s∈List.range 12,variant c s < 1114112:=by decide +kernel
theorem Em {seed:Int} {k c:Nat} (h:c < 1114112):signOf seed k c < 1114112:=by
 unfold signOf
 split
 ·rename_i h5
  exact uw c (by simpa using h5) _ (List.mem_range.mpr (wV seed k))
 ·exact h
theorem Hn (seed:Int) (k:Nat):∀ c∈preOf seed k,c < 1114112:=by
 unfold preOf
 split
 ·intro c hc
  rw [sgX hc]
  have h1:=Int.fmod_nonneg_of_pos (seed.fdiv 24 + 11 * (k:Int)) (show (0:Int) < 27 by decide)
  have h2:=Int.fmod_lt_of_pos (seed.fdiv 24 + 11 * (k:Int)) (show (0:Int) < 27 by decide)
  have hk':((seed.fdiv 24 + 11 * (k:Int)).fmod 27).toNat < hiddenL.length:=by
   have:hiddenL.length=27:=rfl
   lia
  refine yb _ ?_
  rw [List.getD_eq_getElem?_getD,List.getElem?_eq_getElem hk'];exact List.getElem_mem _
 ·intro c hc;cases hc
theorem yc (seed:Int):∀ (l:List Nat) (k:Nat),(∀ c∈l,c < 1114112)→∀ c∈bJ seed k l,c < 1114112:=by
 intro zz
 induction zz with
 | nil =>
  intro _ _
  exact fun c h=>nomatch h
 | cons x l ih =>
  intro k h
  intro c hc
  rw [bJ] at hc
  rcases apX hc with hc | hc
  ·exact Hn seed k c hc
  rcases cnX hc with rfl | hc
  ·exact Em (h x (.head _))
  ·exact ih (k + 1) (fun z hz=>h z (.tail _ hz)) c hc
theorem B2 {cs:List Nat} (h:∀ c∈cs,c∈five) (seed:Int):∀ c∈f5 cs seed,c < 1114112:=by
 refine yc seed _ 0 (Hm ?_)
 rw [nW _ _ 11 (Nat.le_refl _)]
 exact JJ fun c hc=>by
  have:∀ c∈five,c < 1114112:=by decide
  exact this c (h c hc)
theorem En (P:Params):((pairsOf (b3O P)).all fun kv=>match kv.2 with
 | .str _ _=>true
 | _=>false)=true:=by kernel_rfl
theorem B3 (P:Params) (c:Nat):valueAt (pairsOf (b3O P)) (c:Int)=none∨∃ x t,valueAt (pairsOf (b3O P)) (c:Int)=some (.str x t):=by
 cases e:valueAt (pairsOf (b3O P)) (c:Int) with
 | none=>exact .inl rfl
 | some v =>
  refine .inr ?_
  unfold valueAt at e
  obtain ⟨kv,h1,h2⟩:=Option.map_eq_some_iff.mp e
  have:=List.all_eq_true.mp (En P) kv (List.mem_of_find?_eq_some h1)
  rw [h2] at this
  cases v with
  | str x t=>exact ⟨x,t,rfl⟩
  | _=>exact bA this
noncomputable def lettersOf (cells:List Int):List Nat:=cells.flatMap fun c=>[ae (c.fmod 5).toNat,ae ((c.fdiv 5).fmod 5).toNat]
noncomputable def s8 (c:Int):Str:=Str.mk #[ae (c.fmod 5).toNat,ae ((c.fdiv 5).fmod 5).toNat]
theorem lr (cells:List Int):Txt.join (Str.ofString "") (cells.map s8)=Str.mk (lettersOf cells).toArray:=by
 apply rG
 rw [lU]
 show _=lettersOf cells
 unfold lettersOf
 rw [List.flatMap_map]
 rfl
theorem mc {cells:List Int}:(lettersOf cells).length=2 * cells.length:=by
 induction cells with
 | nil=>rfl
 | cons c r ih =>
  show (ae _::ae _::lettersOf r).length=_
  rw [List.length_cons,List.length_cons,ih,List.length_cons]
  lia
theorem wX (c:Int):(c.fmod 5).toNat < 5:=by
 have h1:=Int.fmod_nonneg_of_pos c (show (0:Int) < 5 by decide)
 have h2:=Int.fmod_lt_of_pos c (show (0:Int) < 5 by decide)
 lia
theorem lx (cells:List Int):∀ c∈lettersOf cells,c∈five:=by
 intro c hc
 obtain ⟨x,_,hx⟩:=List.mem_flatMap.mp hc
 rcases cnX hx with rfl | hx
 ·exact bk (wX x)
 ·rw [sgX hx]
  exact bk (wX _)
theorem iq {x:Int} (h0:0≤x) (h1:x < 5):Txt.item (Str.ofString "ahkmp") x=one (ae x.toNat):=by
 obtain ⟨k,rfl⟩:∃ k:Nat,x=k:=⟨x.toNat,by lia⟩
 have e:Str.ofString "ahkmp"=Str.mk five.toArray:=rG (by rw [lj])
 rw [e]
 exact item_at (cs:=five) (i:=k) (show k < 5 by lia)
section
variable {prog:Program} {w:World} {A:Around} {E:Value→Shared→Prop} {s:Shared}
theorem Eo {x:Str} {t:Tok} {D:Addr} {ys:List Value} {ss:List Str} {Q:Value→Shared→Prop} (hl:s.heap.IsList D ys.toArray) (hy:StrsAre ys ss) (hx:x.length=0) (hok:(ss.map (·.length)).sum≤16777216)
  (h:∀ t' k,Q (.str (Txt.join x ss) t') { s with toks:=k }):wpAny (model prog w) A (call (.builtin "str.join") [.str x t,.ref D]) Q E s:=by
 obtain ⟨l,rfl,hm⟩:=strsAre_values hy
 exact SC.join hl hm (joinOk_of (by rw [hx];lia)) h
theorem mh (b:Bool) (x:Str) (t:Tok):Gives (Builtin.«int.__rmul__» ⟨[.bool b,.str x t],[]⟩) (.val (Value.notImplemented)) :=
 .of_wp fun M A E s Q h=>by obtain ⟨hp,g,d,tk,os⟩:=s;wp_walk;exact ⟨_,rfl,h⟩
theorem mi (x:Str) (t:Tok):Gives (Builtin.«str.__mul__» ⟨[.str x t,.bool false],[]⟩) (.str Str.empty):=by
 first | exact .rule (.of_eq rfl) | exact .of_eq rfl | exact .of_wp fun M A E s Q h=>by obtain ⟨hp,g,d,tk,os⟩:=s;wp_walk;exact ⟨_,rfl,h⟩
theorem oG {x:Str} {t:Tok} {Q:Value→Shared→Prop} (h:Q (.str Str.empty s.toks) { s with toks:=s.toks + 1 }):wpAny (model prog w) A (binaryOp .Mult (.str x t) (.bool false)) Q E s :=
 wpAny_binaryOp_repeat (T:="str") (U:="bool") (by decide) (fun s'=>typeIs_str s' x t) (fun s'=>typeIs_bool' s' false) noFill_str_mul F.fills_bool_mul F.slot_bool_rmul repeat_str F.slot_bool_index.lookup
  (call_gives F.slot_bool_rmul (typeIs_bool' s false) F.entry_int_rmul (F.args_int_rmul_2 _ _) (mh false x t)
   ⟨rfl,call_gives F.slot_str_mul (typeIs_str s x t) F.entry_str_mul (F.args_str_mul_2 _ _) (mi x t) ⟨by decide,h⟩⟩)
end
end Mine
end
section
namespace Mine
section
variable {prog:Program} {w:World} {A:Around} {E:Value→Shared→Prop} {s:Shared} {h₀:Heap} {L D:Addr} {m:Str→Option Value} {news news':List (Addr×Obj)} {vs:List Value} {n:Nat} {k:Int} {t:Tok} {v:Value}
theorem JK {Q:Unit→Shared→Prop} (F:Fr h₀ L s.heap m) (N:News h₀ L s.heap news) (U:Upd D (W.listOf vs.toArray n) (W.listOf (vs.set k.toNat v).toArray n) news news') (h0:0≤k) (h1:k < vs.length) (hfit:k < 2 ^ 63)
  (h:∀ h',Fr h₀ L h' m→News h₀ L h' news'→Q () { s with heap:=h' }) :
  wpAny (model prog w) A (setItem (.ref D) (.int k t) v) Q E s:=by
 obtain ⟨pre,post,rfl,rfl,a,b'⟩:=U.split
 have z:=N (D,W.listOf vs.toArray n) (List.mem_append.mpr (.inr (.head _)))
 have hs:vs.toArray.size=vs.length:=List.size_toArray ..
 refine ki_setAt z.1 h0 hfit (by lia) (h _ (F.change (Heap.SameBut.update ..) z.2.1 z.2.2) (ki_turn _ N a b' ?_ ?_))
 ·show vs.toArray.setIfInBounds k.toNat v=(vs.set k.toNat v).toArray
  apply Array.toList_inj.mp
  simp
 ·simp
end
noncomputable def wY:List Int→Nat→Int→List Int
 | [],_,_=>[]
 | c::r,0,x=>(c + x)::r
 | c::r,k + 1,x=>c::wY r k x
theorem yd {l:List Int} {vs:List Value} (x:Int) (t:Tok) (h:IntsAre vs l):∀ k,k < l.length→IntsAre (vs.set k (.int (l.getD k 0 + x) t)) (wY l k x):=by
 induction h with
 | nil=>intro k hk;exact absurd hk (Nat.not_lt_zero _)
 | cons n₀ t₀ hr ih =>
  intro k hk
  cases k with
  | zero=>exact .cons _ _ ‹_›
  | succ k=>exact .cons _ _ (ih k (Nat.lt_of_succ_lt_succ hk))
noncomputable def iu (ns:List Int):Nat→List Int
 | 0=>[746,360,242,512,286]
 | i + 1=>wY (iu ns i) (i % 5) ((ns.getD i 0).fmod 1000000000)
theorem pH:∀ (l:List Int) (k:Nat) (x:Int),(wY l k x).length=l.length
 | [],_,_=>rfl
 | c::r,0,x=>rfl
 | c::r,k + 1,x=>congrArg (· + 1) (pH r k x)
theorem bf (ns:List Int):∀ i,(iu ns i).length=5
 | 0=>rfl
 | i + 1=>(pH _ _ _).trans (bf ns i)
noncomputable def cellsOf (ns:List Int):List Int:=iu (ns.take 60) (ns.take 60).length
section
variable {F:Fm} {pm:PM} {nx:Led}
theorem Ep (ok:F.Ok) {o i value:Expr} {p pos:Pos} {Q:KF} (h:(WW F 30).1 o pm nx fun ov pm nx=>(WW F 30).1 i pm nx fun iv pm nx=>∃ (l:Addr) (vs:List Value) (n k:Nat) (c:Int),ov=.v (.ref l)∧asI iv=some (k:Int)∧(l,W.listOf vs.toArray n)∈nx∧k < vs.length∧vs.length < 2 ^ 40∧(PV.i c).Is (vs.getD k .none) ∧
   (WW F 30).1 value pm nx fun v pm nx=>∃ d,asI v=some d∧(l,W.listOf vs.toArray n)∈nx∧∀ t,∃ nx',Chg l (W.listOf (vs.set k (.int (c + d) t)).toArray n) nx nx'∧Q .next pm nx')
  (ha:∀ ov iv new,augStore i ov iv new=(do holding [new,ov,iv] (setItem ov iv new);release [new,ov,iv] [];pure .next):=by intro _ _ _;rfl):GoF F (exec (.AugAssign (.Subscript o i p) .Add value pos) F.env) pm nx Q:=by
 intro s P hR hP
 refine wpAny_AugAssign_Subscript_any ((ar ok 30).1 _ _ _ _ h s _ hR fun ov x _ _ s1 h1 hx hR1=>(ar ok 30).1 _ _ _ _ h1 s1 _ hR1 fun iv y _ _ s2 q hy hR2=>?_) ha
 obtain ⟨l,vs,n,k,c,rfl,hi,hm,hk,hs,hc,q⟩:=q
 obtain rfl:=hx
 obtain ⟨t,rfl⟩:=au hi hy
 have hk63:(k:Int) < 2 ^ 63:=by lia
 refine wpAny_getItem_list (ok.list hR2 hm) (Int.natCast_nonneg k) hk63 (x:=vs.getD k .none) ?_ ?_
 ·show vs.toArray[k]?=_
  rw [List.getElem?_toArray,List.getD_eq_getElem?_getD,List.getElem?_eq_getElem hk];rfl
 refine (ar ok 30).1 _ _ _ _ q s2 _ hR2 fun v z _ _ s3 q2 hz hR3=>?_
 obtain ⟨d,hd,hm2,hst⟩:=q2
 obtain ⟨u,rfl⟩:=au hd hz
 obtain ⟨u2,e2⟩:=hc
 rw [e2]
 refine _root_.PySem.P.iadd_int ?_
 have hR4:=ok.toks (s3.toks + 1) hR3
 refine ok.turn hR4 hm2 fun m rest Fr' N hr mk=>?_
 obtain ⟨nx',hch,hq⟩:=hst s3.toks
 refine JK (vs:=vs) (n:=n) (k:=(k:Int)) Fr' N (Upd.head hr) (Int.natCast_nonneg k) (by lia) hk63 fun h' F' N'=>?_
 exact hP _ _ _ _ _ hq rfl (mk h' _ _ nx' F' N' hch)
theorem ye (ok:F.Ok) {a u:Expr} {p pos:Pos} {l:Addr} {vs:List Value} {k:Nat} {Q:KV} (hl:F.C.h₀.IsList l vs.toArray) (hz:vs.length≤1000) (h:(WW F 30).1 a pm nx fun ov pm nx=>(WW F 30).1 u pm nx fun uv pm nx=>ov=.v (.ref l)∧asI uv=some (k:Int)∧∀ D,(∀ q∈nx,q.1 < D)→Q (.v (.ref D)) pm ((D,W.listOf (vs.take k).toArray 0)::nx))
  (hs:∀ l b,subscripted (.Slice none (some u) none p) false (.ref l) (.ref b)=operate [.ref b,.ref l] (getItem (.ref l) (.ref b)):=by intro _ _;rfl) (ht:∀ l r,letTemporaryGo a (.ref l) r=pure ():=by intro _ _;rfl):GoV F (eval (.Subscript a (.Slice none (some u) none p) pos) F.env) pm nx Q:=by
 intro s P hR hP
 refine Subscript_ ((ar ok 30).1 _ _ _ _ h s _ hR fun ov x _ _ s1 h1 hx hR1=>?_)
 refine wpAny_Slice ?_
 rw [evalPart_none,evalPart_some]
 refine wpAny_pure ((ar ok 30).1 _ _ _ _ h1 s1 _ hR1 fun uv y pm2 nx2 s2 h2 hy hR2=>wpAny_pure ?_)
 obtain ⟨rfl,hk,hq⟩:=h2
 obtain rfl:=hx
 obtain ⟨t,rfl⟩:=au hk hy
 obtain ⟨m,os,Fr',N,ap,_,mk⟩:=ok.opc hR2
 refine kms_slice_lit (zs:=vs.take k) Fr' N (hl.at fun o e=>Fr'.keep l o e) .none (.int _ _) ?_ (fun D h' F' N' l1=>?_) (hs _ _) (ht _) (by rw [List.size_toArray,sizeLine_eq];lia)
 ·exact xK vs k
 ·refine hP _ _ _ _ _ (hq D fun p hp=>l1 p (apR hp)) rfl (mk h' s2.toks _ F' (News.of N' fun p hp=>?_) fun p hp q hq=>?_)
  ·rcases apX hp with hp | hp
   ·exact .tail _ (apL hp)
   ·rcases cnX hp with rfl | hp
    ·exact .head _
    ·exact .tail _ (apR hp)
  ·rcases cnX hq with rfl | hq
   ·exact Nat.ne_of_lt (l1 p (apL hp))
   ·exact ap p hp q hq
end
theorem yf:∀ {vs:List Value} {ns:List Int} (k:Nat),IntsAre vs ns→IntsAre (vs.take k) (ns.take k):=by
 intro vs ns k h
 induction k generalizing vs ns with
 | zero=>exact .nil
 | succ k ih => cases h with
  | nil=>exact .nil
  | cons n t r=>exact .cons n t (ih r)
theorem ux {w:World} {news:Led} {l:Addr} {vs:List Value} {ns:List Int} (hi₀:IntsAre vs ns) (hlen:ns.length≤63):lG (fun h=>h.IsList l vs.toArray) w (.ref 328) [.ref l] [] 4 news (fun v nx=>∃ (l':Addr) (vs:List Value) (n:Nat),v=.ref l'∧nx=(l',W.listOf vs.toArray n)::news∧(∀ p∈news,p.1 < l')∧IntsAre vs (cellsOf ns)):=by
 refine AL (fun h=>h.IsList l vs.toArray) (fun h g k hl=>hl.at fun o e=>k l o e) (D:=3) [(Str.ofString "script",Value.ref l)] rfl rfl (fun s _=>BindsTo.of_eq rfl) rfl rfl fun C hC hL lN hcl hcc Q hr hn hw=>?_
 have ok:=Cx.fmOk hC
 refine iO ok _ _ _ _ ?_
 refine bj ok (aD rfl) fun lc v0 hv0 hlc=>?_
 have hl0:vs.length≤63:=hi₀.length▸hlen
 refine mu hC (ye ok (k:=60) hL (by lia) ⟨rfl,rfl,fun lt hlt=>?_⟩) ⟨rfl,rfl,rfl⟩
 have htk:IntsAre (vs.take 60) (ns.take 60):=yf 60 hi₀
 refine pe hC (fun _:List Value×Nat=>[(Str.ofString "cells",.v (.ref lc))]) (fun c=>(lt,W.listOf (vs.take 60).toArray 0)::(lc,W.listOf c.1.toArray c.2)::news) (fun i c=>IntsAre c.1 (iu (ns.take 60) i)) (v0,0) (fun i c _=>.head _) ⟨AllIs.ints (ns:=[746,360,242,512,286]) hv0,⟨rfl,trivial⟩,fun p hp=>hp⟩ (fun i c its hi hP hoff Q1 hQ1 hR1=>?_) fun c hP=>?_
 ·refine ⟨.i ((ns.take 60).getD i 0),its++(lt,W.listOf (vs.take 60).toArray 0)::(lc,W.listOf c.1.toArray c.2)::news,fun v hv=>cU htk hv,fun _ h=>h,?_⟩
  have hl5:c.1.length=5:=hP.length.trans (bf _ _)
  have hoff2:∀ p∈its++(lt,W.listOf (vs.take 60).toArray 0)::news,p.1≠lc:=fun p hp=>by
   rcases apX hp with hp | hp
   ·exact Ne.symm (hoff (lc,W.listOf c.1.toArray c.2) (.tail _ (.head _)) p hp)
   ·rcases cnX hp with rfl | hp
    ·exact Nat.ne_of_gt (hlt _ (.head _))
    ·exact Nat.ne_of_lt (hlc p hp)
  have e5:(i:Int).fmod 5=((i % 5:Nat):Int):=by rw [Int.fmod_eq_emod_of_nonneg _ (by decide)];rfl
  have h5:i % 5 < 5:=Nat.mod_lt _ (by decide)
  refine Ep ok ?_
  refine And.intro (by decide) ⟨lc,c.1,c.2,i % 5,(iu (ns.take 60) i).getD (i % 5) 0,rfl,congrArg some e5,apR (.tail _ (.head _)),by lia,by lia,fX hP _ (by rw [bf];exact h5),?_⟩
  refine A3 ok (m:=10) (n:=9) rfl rfl (by decide) (by decide) (by decide) ?_
  refine And.intro (by decide) ⟨_,rfl,apR (.tail _ (.head _)),fun t=>⟨its++(lt,W.listOf (vs.take 60).toArray 0)::(lc,_)::news,(Chg.rest fun p hp=>⟨apL hp,hoff2 p (apL hp)⟩).app (.old (apR (.head _)) (hoff2 _ (apR (.head _))) (.new (.rest fun p hp=>⟨apR (.tail _ (.tail _ hp)),hoff2 p (apR (.tail _ hp))⟩))),hQ1 _ _ (_,c.2) ?_ ⟨rfl,trivial⟩ (fun p hp=>hp) fun p hp q hq=>?_⟩⟩
  ·rw [iu]
   exact yd _ _ hP (i % 5) (by rw [bf];exact h5)
  ·rcases cnX hp with rfl | hp
   ·exact hoff _ (.head _) q hq
   ·rcases cnX hp with rfl | hp
    ·exact hoff (lc,W.listOf c.1.toArray c.2) (.tail _ (.head _)) q hq
    ·exact hoff p (.tail _ (.tail _ hp)) q hq
 ·refine hw _ _ _ ((lc,W.listOf c.1.toArray c.2)::news) (fun p hp=>.tail _ hp) (hr _ _ _ fun y hy=>?_)
  obtain rfl:=hy
  exact ⟨lc,c.1,c.2,rfl,rfl,hlc,by unfold cellsOf;rw [← htk.length];exact hP⟩
end Mine
end
section
namespace Mine
noncomputable def cnt (p:Nat→Bool):Nat:=(List.range 5).countP p
noncomputable def aj (r:Nat→Nat→Bool) (y:Nat):Nat:=cnt fun x=>r x y
noncomputable def ao (r:Nat→Nat→Bool) (x:Nat):Nat:=cnt fun y=>r x y
noncomputable def cW (f:Nat→Nat) (y:Nat):Nat:=cnt fun v=>decide (v < f y) && (List.range 5).any fun z=>f z==v
noncomputable def fw (g:Nat→Nat) (x:Nat):Nat:=cnt fun v=>decide (g x < v) && (List.range 5).any fun z=>g z==v
noncomputable def cX (f:Nat→Nat):Nat:=cnt fun v=>(List.range 5).any fun z=>f z==v
noncomputable def cH (f g:Nat→Nat) (x:Nat):Nat:=min (cW f x) (fw g x)
noncomputable def aA (f g:Nat→Nat) (x:Nat):Nat:=max (cW f x) (fw g x)
noncomputable def dq (p:Nat→Bool):Bool:=(List.range 5).all p
noncomputable def bb (p:Nat→Bool):Bool:=(List.range 5).any p
noncomputable def f6 (r:Nat→Nat→Bool):Bool:=bb fun x=>bb fun z=>(bb fun y=>r x y && !r z y) && (bb fun y=>r z y && !r x y)
noncomputable def aM (d b:Nat→Nat) (x y:Nat):Bool:=decide (b x < d y)
noncomputable def aR (cut v:Nat):Nat:=if cut < v then v - 1 else v
noncomputable def dk (d b:Nat→Nat) (n:Nat):Nat:=(List.range (n - 1)).countP fun cut=>bb fun y=>bb fun x=>aM (fun z=>aR cut (d z)) (fun z=>aR cut (b z)) x y !=aM d b x y
noncomputable def chk (r:Nat→Nat→Bool) (d b:Nat→Nat) (nl nh:Nat):Bool :=
 ((dq fun x=>dq fun y=>aM d b x y==r x y) == !f6 r) && nl !=0 && (f6 r || (nl==nh && dk d b nl==nl - 1))
noncomputable def oH (r:Nat→Nat→Bool):Bool:=chk r (cH (aj r) (ao r)) (aA (aj r) (ao r)) (cX (aj r)) (cX (ao r))
noncomputable def yg (b:Nat) (x y:Nat):Bool:=decide (x < y) && decide (y < 5) && b.testBit (5 * x + y)
noncomputable def uy (r:Nat→Nat→Bool):Bool:=dq fun x=>dq fun y=>dq fun z => !(r x y && r y z) || r x z
noncomputable def spread (b:Nat):Nat:=(b % 16) * 2 + (b / 16 % 8) * 128 + (b / 128 % 4) * 8192 + (b / 512 % 2) * 524288
theorem Er:((List.range 1024).all fun b => !uy (yg (spread b)) || oH (yg (spread b)))=true:=by decide +kernel
end Mine
end
section
namespace Mine
theorem all_range {p q:Nat→Bool} (h:∀ x < 5,p x=q x):dq p=dq q:=by
 unfold dq
 rw [Bool.eq_iff_iff,List.all_eq_true,List.all_eq_true]
 exact ⟨fun k x hx=>h x (List.mem_range.mp hx)▸k x hx,fun k x hx=>(h x (List.mem_range.mp hx)).symm▸k x hx⟩
theorem any_range {p q:Nat→Bool} (h:∀ x < 5,p x=q x):bb p=bb q:=by
 unfold bb
 rw [Bool.eq_iff_iff,List.any_eq_true,List.any_eq_true]
 exact ⟨fun ⟨x,hx,k⟩=>⟨x,hx,h x (List.mem_range.mp hx)▸k⟩,fun ⟨x,hx,k⟩=>⟨x,hx,(h x (List.mem_range.mp hx)).symm▸k⟩⟩
theorem cc {p q:Nat→Bool} (h:∀ x < 5,p x=q x):cnt p=cnt q :=
 List.countP_congr fun x hx=>by rw [h x (List.mem_range.mp hx)]
section
variable {l:List Nat} (hl:l.Perm (List.range 5))
include hl
theorem sig_map:(List.range 5).map (fun i=>l.getD i 0)=l:=by
 have hn:l.length=5:=by rw [hl.length_eq];rfl
 apply List.ext_getElem
 ·simp [hn]
 ·intro i h1 h2
  simp [List.getD,h2]
theorem s9 (p:Nat→Bool):cnt (fun i=>p (l.getD i 0))=cnt p:=by
 unfold cnt
 rw [← hl.countP_eq p]
 conv=>rhs;rw [← sig_map hl]
 rw [List.countP_map]
 rfl
theorem d0 (p:Nat→Bool):bb (fun i=>p (l.getD i 0))=bb p:=by
 unfold bb
 have:(List.range 5).any p=l.any p:=by
  rw [Bool.eq_iff_iff,List.any_eq_true,List.any_eq_true]
  exact ⟨fun ⟨x,hx,k⟩=>⟨x,hl.mem_iff.mpr hx,k⟩,fun ⟨x,hx,k⟩=>⟨x,hl.mem_iff.mp hx,k⟩⟩
 rw [this]
 conv=>rhs;rw [← sig_map hl]
 rw [List.any_map]
 rfl
theorem td (p:Nat→Bool):dq (fun i=>p (l.getD i 0))=dq p:=by
 unfold dq
 have:(List.range 5).all p=l.all p:=by
  rw [Bool.eq_iff_iff,List.all_eq_true,List.all_eq_true]
  exact ⟨fun k x hx=>k x (hl.mem_iff.mp hx),fun k x hx=>k x (hl.mem_iff.mpr hx)⟩
 rw [this]
 conv=>rhs;rw [← sig_map hl]
 rw [List.all_map]
 rfl
theorem uz (r:Nat→Nat→Bool) (y:Nat):aj (fun x y=>r (l.getD x 0) (l.getD y 0)) y=aj r (l.getD y 0):=s9 hl fun x=>r x (l.getD y 0)
theorem yh (r:Nat→Nat→Bool) (x:Nat):ao (fun x y=>r (l.getD x 0) (l.getD y 0)) x=ao r (l.getD x 0):=s9 hl fun y=>r (l.getD x 0) y
theorem lW (f:Nat→Nat) (v:Nat):((List.range 5).any fun z=>f (l.getD z 0)==v)=(List.range 5).any fun z=>f z==v:=d0 hl fun z=>f z==v
theorem nX (f:Nat→Nat) (y:Nat):cW (fun z=>f (l.getD z 0)) y=cW f (l.getD y 0):=by
 unfold cW
 simp only [lW hl f]
theorem pI (f:Nat→Nat) (y:Nat):fw (fun z=>f (l.getD z 0)) y=fw f (l.getD y 0):=by
 unfold fw
 simp only [lW hl f]
theorem nY (f:Nat→Nat):cX (fun z=>f (l.getD z 0))=cX f:=by
 unfold cX
 simp only [lW hl f]
theorem uA (r:Nat→Nat→Bool):f6 (fun x y=>r (l.getD x 0) (l.getD y 0))=f6 r:=by
 unfold f6
 refine Eq.trans (any_range (q:=fun x=>(fun x'=>bb fun z=>(bb fun y=>r x' y && !r z y) && (bb fun y=>r z y && !r x' y)) (l.getD x 0)) fun x _=>?_) (d0 hl fun x'=>bb fun z=>(bb fun y=>r x' y && !r z y) && (bb fun y=>r z y && !r x' y))
 refine Eq.trans (any_range (q:=fun z=>(fun z'=>(bb fun y=>r (l.getD x 0) y && !r z' y) && (bb fun y=>r z' y && !r (l.getD x 0) y)) (l.getD z 0)) fun z _=>?_) (d0 hl fun z'=>(bb fun y=>r (l.getD x 0) y && !r z' y) && (bb fun y=>r z' y && !r (l.getD x 0) y))
 exact congr (congrArg and (d0 hl fun y=>r (l.getD x 0) y && !r (l.getD z 0) y)) (d0 hl fun y=>r (l.getD z 0) y && !r (l.getD x 0) y)
theorem rH (d b:Nat→Nat) (n:Nat):dk (fun z=>d (l.getD z 0)) (fun z=>b (l.getD z 0)) n=dk d b n:=by
 unfold dk
 refine List.countP_congr fun cut _=>iff_of_eq (congrArg (· = true) ?_)
 refine Eq.trans (any_range (q:=fun y=>(fun y'=>bb fun x=>aM (fun z=>aR cut (d z)) (fun z=>aR cut (b z)) x y' !=aM d b x y') (l.getD y 0)) fun y _=>?_) (d0 hl fun y'=>bb fun x=>aM (fun z=>aR cut (d z)) (fun z=>aR cut (b z)) x y' !=aM d b x y')
 exact d0 hl fun x=>aM (fun z=>aR cut (d z)) (fun z=>aR cut (b z)) x (l.getD y 0) !=aM d b x (l.getD y 0)
theorem yi (r:Nat→Nat→Bool):oH (fun x y=>r (l.getD x 0) (l.getD y 0))=oH r:=by
 unfold oH chk
 have e1:aj (fun x y=>r (l.getD x 0) (l.getD y 0))=fun z=>aj r (l.getD z 0):=funext (uz hl r)
 have e2:ao (fun x y=>r (l.getD x 0) (l.getD y 0))=fun z=>ao r (l.getD z 0):=funext (yh hl r)
 have e3:cH (fun z=>aj r (l.getD z 0)) (fun z=>ao r (l.getD z 0))=fun z=>cH (aj r) (ao r) (l.getD z 0):=funext fun z=>by
  unfold cH;rw [nX hl,pI hl]
 have e4:aA (fun z=>aj r (l.getD z 0)) (fun z=>ao r (l.getD z 0))=fun z=>aA (aj r) (ao r) (l.getD z 0):=funext fun z=>by
  unfold aA;rw [nX hl,pI hl]
 rw [e1,e2,e3,e4,nY hl,nY hl,uA hl,rH hl]
 have e5:(dq fun x=>dq fun y=>aM (fun z=>cH (aj r) (ao r) (l.getD z 0)) (fun z=>aA (aj r) (ao r) (l.getD z 0)) x y==r (l.getD x 0) (l.getD y 0))=dq fun x=>dq fun y=>aM (cH (aj r) (ao r)) (aA (aj r) (ao r)) x y==r x y:=by
  rw [← td hl fun x=>dq fun y=>aM (cH (aj r) (ao r)) (aA (aj r) (ao r)) x y==r x y]
  exact all_range fun x _=>td hl fun y=>aM (cH (aj r) (ao r)) (aA (aj r) (ao r)) (l.getD x 0) y==r (l.getD x 0) y
 rw [e5]
end
end Mine
end
section
namespace Mine
theorem uB {r r':Nat→Nat→Bool} (h:∀ x < 5,∀ y < 5,r x y=r' x y):oH r=oH r':=by
 have f1:∀ y < 5,aj r y=aj r' y:=fun y hy=>cc fun x hx=>h x hx y hy
 have m1:∀ x < 5,ao r x=ao r' x:=fun x hx=>cc fun y hy=>h x hx y hy
 have v1:∀ {f f':Nat→Nat},(∀ x < 5,f x=f' x)→∀ v,((List.range 5).any fun z=>f z==v)=(List.range 5).any fun z=>f' z==v:=fun e v=>any_range (p:=fun z=>_==v) (q:=fun z=>_==v) fun x hx=>by rw [e x hx]
 have f2:∀ y < 5,cW (aj r) y=cW (aj r') y:=fun y hy=>by
  unfold cW
  exact cc fun v _=>by rw [f1 y hy,v1 f1]
 have l2:∀ y < 5,fw (ao r) y=fw (ao r') y:=fun y hy=>by
  unfold fw
  exact cc fun v _=>by rw [m1 y hy,v1 m1]
 have s1:cX (aj r)=cX (aj r'):=cc fun v _=>v1 f1 v
 have s2:cX (ao r)=cX (ao r'):=cc fun v _=>v1 m1 v
 have d1:∀ y < 5,cH (aj r) (ao r) y=cH (aj r') (ao r') y:=fun y hy=>by unfold cH;rw [f2 y hy,l2 y hy]
 have b1:∀ y < 5,aA (aj r) (ao r) y=aA (aj r') (ao r') y:=fun y hy=>by unfold aA;rw [f2 y hy,l2 y hy]
 have t1:∀ x < 5,∀ y < 5,aM (cH (aj r) (ao r)) (aA (aj r) (ao r)) x y=aM (cH (aj r') (ao r')) (aA (aj r') (ao r')) x y:=fun x hx y hy=>by unfold aM;rw [d1 y hy,b1 x hx]
 have a1:f6 r=f6 r':=any_range fun x hx=>any_range fun z hz=>by
  rw [any_range (p:=fun y=>r x y && !r z y) (q:=fun y=>r' x y && !r' z y) fun y hy=>by rw [h x hx y hy,h z hz y hy],any_range (p:=fun y=>r z y && !r x y) (q:=fun y=>r' z y && !r' x y) fun y hy=>by rw [h x hx y hy,h z hz y hy]]
 have c1:∀ n,dk (cH (aj r) (ao r)) (aA (aj r) (ao r)) n=dk (cH (aj r') (ao r')) (aA (aj r') (ao r')) n:=fun n=>by
  unfold dk
  refine List.countP_congr fun cut _=>iff_of_eq (congrArg (· = true) ?_)
  have t2:∀ x < 5,∀ y < 5,aM (fun z=>aR cut (cH (aj r) (ao r) z)) (fun z=>aR cut (aA (aj r) (ao r) z)) x y=aM (fun z=>aR cut (cH (aj r') (ao r') z)) (fun z=>aR cut (aA (aj r') (ao r') z)) x y:=fun x hx y hy=>by
   unfold aM
   exact decide_eq_decide.mpr (by dsimp only;rw [d1 y hy,b1 x hx])
  exact any_range fun y hy=>any_range fun x hx=>by rw [t1 x hx y hy,t2 x hx y hy]
 unfold oH chk
 rw [s1,s2,a1,c1]
 rw [all_range (p:=fun x=>dq fun y=>aM (cH (aj r) (ao r)) (aA (aj r) (ao r)) x y==r x y) (q:=fun x=>dq fun y=>aM (cH (aj r') (ao r')) (aA (aj r') (ao r')) x y==r' x y) fun x hx=>all_range fun y hy=>by rw [t1 x hx y hy,h x hx y hy]]
noncomputable def enc (a b c d e f g h i j:Bool):Nat:=a.toNat + 2 * b.toNat + 4 * c.toNat + 8 * d.toNat + 16 * e.toNat + 32 * f.toNat + 64 * g.toNat + 128 * h.toNat + 256 * i.toNat + 512 * j.toNat
theorem Ho (a b c d e f g h i j:Bool):enc a b c d e f g h i j < 1024:=by
 unfold enc
 have k:∀ x:Bool,x.toNat≤1:=fun x=>by cases x <;> decide
 have:=k a;have:=k b;have:=k c;have:=k d;have:=k e;have:=k f;have:=k g;have:=k h;have:=k i;have:=k j
 lia
noncomputable def FT (a b c d e f g h i j:Bool):Bool :=
 let t:=yg (spread (enc a b c d e f g h i j))
 (t 0 1==a) && (t 0 2==b) && (t 0 3==c) && (t 0 4==d) && (t 1 2==e) && (t 1 3==f) && (t 1 4==g) && (t 2 3==h) && (t 2 4==i) && (t 3 4==j)
theorem Hp:([false,true].all fun a=>[false,true].all fun b=>[false,true].all fun c=>[false,true].all fun d=>[false,true].all fun e=>[false,true].all fun f=>[false,true].all fun g=>[false,true].all fun h=>[false,true].all fun i=>[false,true].all fun j=>FT a b c d e f g h i j)=true:=by decide +kernel
theorem ft (a:Bool):a∈[false,true]:=by cases a <;> decide
theorem Hq {r:Nat→Nat→Bool} (up:∀ x < 5,∀ y < 5,r x y=true→x < y):∃ b < 1024,∀ x < 5,∀ y < 5,r x y=yg (spread b) x y:=by
 refine ⟨enc (r 0 1) (r 0 2) (r 0 3) (r 0 4) (r 1 2) (r 1 3) (r 1 4) (r 2 3) (r 2 4) (r 3 4),Ho ..,fun x hx y hy=>?_⟩
 have k:=Hp
 have k1:=List.all_eq_true.mp k _ (ft (r 0 1))
 have k2:=List.all_eq_true.mp k1 _ (ft (r 0 2))
 have k3:=List.all_eq_true.mp k2 _ (ft (r 0 3))
 have k4:=List.all_eq_true.mp k3 _ (ft (r 0 4))
 have k5:=List.all_eq_true.mp k4 _ (ft (r 1 2))
 have k6:=List.all_eq_true.mp k5 _ (ft (r 1 3))
 have k7:=List.all_eq_true.mp k6 _ (ft (r 1 4))
 have k8:=List.all_eq_true.mp k7 _ (ft (r 2 3))
 have k9:=List.all_eq_true.mp k8 _ (ft (r 2 4))
 have k0:=List.all_eq_true.mp k9 _ (ft (r 3 4))
 clear k k1 k2 k3 k4 k5 k6 k7 k8 k9
 simp only [FT,Bool.and_eq_true,beq_iff_eq] at k0
 generalize enc (r 0 1) (r 0 2) (r 0 3) (r 0 4) (r 1 2) (r 1 3) (r 1 4) (r 2 3) (r 2 4) (r 3 4)=n at k0 ⊢
 obtain ⟨⟨⟨⟨⟨⟨⟨⟨⟨e1,e2⟩,e3⟩,e4⟩,e5⟩,e6⟩,e7⟩,e8⟩,e9⟩,e0⟩:=k0
 by_cases hxy:x < y
 ·rcases (by lia:x=0∨x=1∨x=2∨x=3) with rfl | rfl | rfl | rfl <;> rcases (by lia:y=1∨y=2∨y=3∨y=4) with rfl | rfl | rfl | rfl <;> first | lia | (symm;assumption)
 ·have h1:r x y=false:=by
   cases e:r x y
   ·rfl
   ·exact absurd (up x hx y hy e) hxy
  rw [h1,yg,decide_eq_false hxy];rfl
theorem B4 (f:Nat→Nat) (hf:∀ x,f x≤5):∀ l:List Nat,(byV f (List.range 6) l).Perm l:=by
 intro zz
 induction zz with
 | nil =>
  rw [show byV f (List.range 6) []=[] from rfl]
 | cons x l ih =>
  have h6:List.range 6=List.range (f x)++([f x]++(List.range (5 - f x)).map fun k=>f x + 1 + k):=by
   have:=hf x
   generalize f x=v at this
   rcases (by lia:v=0∨v=1∨v=2∨v=3∨v=4∨v=5) with rfl | rfl | rfl | rfl | rfl | rfl <;> rfl
  have ih:=ih
  rw [h6] at ih ⊢
  simp only [bG] at ih ⊢
  rw [ie kY,ie ig,sF]
  refine (List.perm_middle).trans ?_
  exact ih.cons x
theorem Hr (p:Nat→Bool):cnt p≤5:=by
 have:=List.countP_le_length (p:=p) (l:=List.range 5)
 simpa [cnt] using this
theorem B5 (f:Nat→Nat) (n:Nat) (l:List Nat):(byV f (List.range n) l).Pairwise (fun x y=>f x≤f y):=by
 unfold byV
 rw [List.pairwise_flatMap]
 refine ⟨fun z _=>?_,?_⟩
 ·refine tY fun a ha b hb=>?_
  have h1:=(List.mem_filter.mp ha).2
  have h2:=(List.mem_filter.mp hb).2
  rw [beq_iff_eq] at h1 h2
  lia
 ·refine List.Pairwise.imp (fun {a b} hab x hx y hy=>?_) (List.pairwise_lt_range (n:=n))
  have h1:=(List.mem_filter.mp hx).2
  have h2:=(List.mem_filter.mp hy).2
  rw [beq_iff_eq] at h1 h2
  lia
theorem pJ {p q:Nat→Bool} {z:Nat}:∀ {l:List Nat},(∀ x∈l,p x=true→q x=true)→z∈l→p z=false→q z=true→l.countP p < l.countP q:=by
 intro zz
 induction zz with
 | nil =>
  intro _ hz _ _
  exact nomatch hz
 | cons x l ih =>
  intro h hz hp hq
  rw [List.countP_cons,List.countP_cons]
  have hle:l.countP p≤l.countP q:=List.countP_mono_left fun y hy=>h y (.tail _ hy)
  rcases cnX hz with rfl | hz
  ·simp only [hp,hq];simp;lia
  ·have:=ih (fun y hy=>h y (.tail _ hy)) hz hp hq
   have h1:=h x (.head _)
   cases e:p x
   ·simp;lia
   ·rw [h1 e];simp;lia
theorem B6 {r:Nat→Nat→Bool} (tr:∀ x < 5,∀ y < 5,∀ z < 5,r x y=true→r y z=true→r x z=true) (ir:∀ x < 5,r x x=false):oH r=true:=by
 have hl:=B4 (aj r) (fun _=>Hr _) (List.range 5)
 have hu:=B5 (aj r) 6 (List.range 5)
 generalize hL:byV (aj r) (List.range 6) (List.range 5)=l at hl hu
 clear hL
 have hn:l.length=5:=by rw [hl.length_eq];rfl
 have hlt:∀ x < 5,l.getD x 0 < 5:=fun x hx=>by
  rw [List.getD_eq_getElem?_getD,List.getElem?_eq_getElem (by lia)]
  exact List.mem_range.mp (hl.mem_iff.mp (List.getElem_mem _))
 rw [← yi hl r]
 have up:∀ x < 5,∀ y < 5,r (l.getD x 0) (l.getD y 0)=true→x < y:=fun x hx y hy e=>by
  have hlt2:aj r (l.getD x 0) < aj r (l.getD y 0):=by
   refine pJ (z:=l.getD x 0) (fun z hz e1=>tr z (List.mem_range.mp hz) _ (hlt x hx) _ (hlt y hy) e1 e) (List.mem_range.mpr (hlt x hx)) (ir _ (hlt x hx)) e
  rcases Nat.lt_or_ge x y with h | h
  ·exact h
  ·exfalso
   have:aj r (l.getD y 0)≤aj r (l.getD x 0):=by
    rcases Nat.eq_or_lt_of_le h with h | h
    ·rw [h];exact Nat.le_refl _
    ·have:=List.pairwise_iff_getElem.mp hu y x (by lia) (by lia) h
     rwa [List.getD_eq_getElem?_getD,List.getD_eq_getElem?_getD,List.getElem?_eq_getElem (by lia),List.getElem?_eq_getElem (by lia)]
   lia
 obtain ⟨b,hb,he⟩:=Hq up
 rw [uB he]
 have k:=List.all_eq_true.mp Er b (List.mem_range.mpr hb)
 have ht:uy (yg (spread b))=true:=by
  unfold uy dq
  rw [List.all_eq_true]
  intro x hx
  rw [List.all_eq_true]
  intro y hy
  rw [List.all_eq_true]
  intro z hz
  have hx:=List.mem_range.mp hx
  have hy:=List.mem_range.mp hy
  have hz:=List.mem_range.mp hz
  rw [← he x hx y hy, ← he y hy z hz, ← he x hx z hz]
  have:=tr _ (hlt x hx) _ (hlt y hy) _ (hlt z hz)
  cases e1:r (l.getD x 0) (l.getD y 0)
  ·rfl
  ·cases e2:r (l.getD y 0) (l.getD z 0)
   ·rfl
   ·rw [this e1 e2];rfl
 rw [ht] at k
 simpa using k
end Mine
end
section
namespace Mine
theorem cg:five=(List.range 5).map ae:=rfl
theorem nZ (F:Nat→Nat) (v:Nat):(five.map F).contains v=(List.range 5).any fun z=>F (ae z)==v:=by
 rw [Bool.eq_iff_iff,List.contains_iff_mem,List.any_eq_true,cg,List.map_map,List.mem_map]
 exact ⟨fun ⟨z,hz,e⟩=>⟨z,hz,by simpa using e⟩,fun ⟨z,hz,e⟩=>⟨z,hz,by simpa using e⟩⟩
theorem te (F:Nat→Nat):(bU (five.map F)).length=cX fun z=>F (ae z):=by
 unfold bU cX cnt
 rw [List.length_map,List.countP_eq_length_filter]
 simp only [nZ]
theorem md {p:Nat→Bool} {l:List Nat} (h:∀ x∈l,p x=false):l.countP p=0:=by
 rw [List.countP_eq_zero]
 intro x hx
 simp [h x hx]
section
variable {F G:Nat→Nat} (hF:∀ c∈five,F c≤4) (hG:∀ c∈five,G c≤4)
include hF hG
theorem B7 {y:Nat} (hy:y < 5):gY F G (ae y)=(cW (fun z=>F (ae z)) y:Int)∧cW (fun z=>F (ae z)) y≤4:=by
 have hv:=hF _ (bk hy)
 obtain ⟨p,hp⟩:∃ p:Nat→Bool,p=fun v=>(five.map F).contains v:=⟨_,rfl⟩
 have hL:bU (five.map F)=(((List.range (F (ae y))).filter p).map fun v:Nat=>(v:Int))++((([F (ae y)]++(List.range (4 - F (ae y))).map fun k=>F (ae y) + 1 + k).filter p).map fun v:Nat=>(v:Int)):=by
  unfold bU
  rw [← List.map_append, ← List.filter_append, ← bq hv,hp]
 have hc:cW (fun z=>F (ae z)) y=((List.range (F (ae y))).filter p).length:=by
  have h0:cW (fun z=>F (ae z)) y=(List.range 5).countP fun v=>decide (v < F (ae y)) && p v:=List.countP_congr fun x hx=>by rw [hp, ← nZ]
  rw [h0,bq hv,List.countP_append,md (l:=[F (ae y)]++_),Nat.add_zero, ← List.countP_eq_length_filter]
  ·refine List.countP_congr fun x hx=>?_
   rw [decide_eq_true (List.mem_range.mp hx),Bool.true_and]
  ·intro x hx
   rw [decide_eq_false,Bool.false_and]
   rcases apX hx with hx | hx
   ·rw [sgX hx];exact Nat.lt_irrefl _
   ·obtain ⟨k,_⟩:=bI hx
    lia
 have hb:cW (fun z=>F (ae z)) y≤4:=by
  rw [hc]
  have:=List.length_filter_le p (List.range (F (ae y)))
  rw [List.length_range] at this
  lia
 refine ⟨?_,hb⟩
 unfold gY fo
 rw [ik hF,ik hG]
 rw [nN (C:=bU (five.map G)) (A:=(((List.range (F (ae y))).filter p).map fun v:Nat=>(v:Int))) (B:=((([F (ae y)]++(List.range (4 - F (ae y))).map fun k=>F (ae y) + 1 + k).filter p).map fun v:Nat=>(v:Int))) (D:=[]) (by rw [List.append_nil, ← hL]) ?_ ?_ (by rw [hL];simp [Nat.add_assoc]),hc]
 ·simp only [List.length_map]
  lia
 ·intro a ha
  obtain ⟨v,h1⟩:=bI ha
  have:=List.mem_range.mp (List.mem_filter.mp h1).1
  lia
 ·intro a ha
  obtain ⟨v,h1⟩:=bI ha
  rcases apX (List.mem_filter.mp h1).1 with hx | hx
  ·rw [sgX hx];lia
  ·obtain ⟨k,_⟩:=bI hx
   lia
theorem last_eq {y:Nat} (hy:y < 5):ma F G (ae y)=(fw (fun z=>G (ae z)) y:Int)∧fw (fun z=>G (ae z)) y≤4:=by
 have hv:=hG _ (bk hy)
 obtain ⟨p,hp⟩:∃ p:Nat→Bool,p=fun v=>(five.map G).contains v:=⟨_,rfl⟩
 have hpv:p (G (ae y))=true:=by
  rw [hp]
  exact List.contains_iff_mem.mpr (List.mem_map.mpr ⟨_,bk hy,rfl⟩)
 have hL:bU (five.map G)=(((List.range (G (ae y))).filter p).map fun v:Nat=>(v:Int))++((G (ae y):Int)::((((List.range (4 - G (ae y))).map fun k=>G (ae y) + 1 + k).filter p).map fun v:Nat=>(v:Int))):=by
  have h5:bU (five.map G)=(((List.range (G (ae y))).filter p).map fun v:Nat=>(v:Int))++((([G (ae y)]++(List.range (4 - G (ae y))).map fun k=>G (ae y) + 1 + k).filter p).map fun v:Nat=>(v:Int)):=by
   unfold bU
   rw [← List.map_append, ← List.filter_append, ← bq hv,hp]
  rw [h5,List.singleton_append,List.filter_cons,hpv];rfl
 have hc:fw (fun z=>G (ae z)) y=(((List.range (4 - G (ae y))).map fun k=>G (ae y) + 1 + k).filter p).length:=by
  have h0:fw (fun z=>G (ae z)) y=(List.range 5).countP fun v=>decide (G (ae y) < v) && p v:=List.countP_congr fun x hx=>by rw [hp, ← nZ]
  rw [h0,bq hv, ← List.append_assoc,List.countP_append,md (l:=List.range _++[G (ae y)]),Nat.zero_add, ← List.countP_eq_length_filter]
  ·refine List.countP_congr fun x hx=>?_
   obtain ⟨k,_⟩:=bI hx
   rw [decide_eq_true (show G (ae y) < G (ae y) + 1 + k by lia),Bool.true_and]
  ·intro x hx
   rw [decide_eq_false,Bool.false_and]
   rcases apX hx with hx | hx
   ·have:=List.mem_range.mp hx;lia
   ·rw [sgX hx];exact Nat.lt_irrefl _
 have hb:fw (fun z=>G (ae z)) y≤4:=by
  rw [hc]
  have:=List.length_filter_le p ((List.range (4 - G (ae y))).map fun k=>G (ae y) + 1 + k)
  rw [List.length_map,List.length_range] at this
  lia
 refine ⟨?_,hb⟩
 unfold ma fo
 rw [ik hF,ik hG]
 have h0:=nN (C:=[]) (A:=(((List.range (G (ae y))).filter p).map fun v:Nat=>(v:Int))) (B:=((G (ae y):Int)::((((List.range (4 - G (ae y))).map fun k=>G (ae y) + 1 + k).filter p).map fun v:Nat=>(v:Int)))) (D:=bU (five.map F)) (ns:=bU (five.map G)++bU (five.map F)) (x:=(G (ae y):Int)) (hi:=(bU (five.map G)).length) (by rw [List.nil_append, ← List.append_assoc, ← hL]) ?_ ?_ (by rw [hL];simp)
 ·rw [List.length_nil,Nat.zero_add] at h0
  rw [h0,hc,hL]
  simp only [List.length_map,List.length_append,List.length_cons]
  lia
 ·intro a ha
  obtain ⟨v,h1⟩:=bI ha
  have:=List.mem_range.mp (List.mem_filter.mp h1).1
  lia
 ·intro a ha
  rcases cnX ha with rfl | ha
  ·lia
  ·obtain ⟨v,h1⟩:=bI ha
   obtain ⟨k,_⟩:=bI (List.mem_filter.mp h1).1
   lia
theorem Hs {y:Nat} (hy:y < 5):aH F G (ae y)=(cH (fun z=>F (ae z)) (fun z=>G (ae z)) y:Int)∧aa F G (ae y)=(aA (fun z=>F (ae z)) (fun z=>G (ae z)) y:Int)∧aA (fun z=>F (ae z)) (fun z=>G (ae z)) y≤4∧cH (fun z=>F (ae z)) (fun z=>G (ae z)) y≤4:=by
 obtain ⟨h1,h2⟩:=B7 hF hG hy
 obtain ⟨h3,h4⟩:=last_eq hF hG hy
 unfold aH aa cH aA
 rw [h1,h3]
 exact Ku h2 h4
end
theorem Es (l:List Nat) (b:Nat→Int) (x:Int):ltI (l.map fun c=>1000 * b c) (1000 * x)=ltI (l.map b) x:=by
 funext i
 unfold ltI
 rw [List.getD_eq_getElem?_getD,List.getD_eq_getElem?_getD,List.getElem?_map,List.getElem?_map]
 cases l[i]? with
 | none=>simp only [Option.map_none,Option.getD_none];exact decide_eq_decide.mpr (by lia)
 | some c=>simp only [Option.map_some,Option.getD_some];exact decide_eq_decide.mpr (by lia)
theorem yj {lt lt':Nat→Bool}:∀ {lo hi:Nat},(∀ i,lo≤i→i < hi→lt i=lt' i)→bis lt lo hi=bis lt' lo hi:=by
 intro lo hi h
 induction hn:hi - lo using Nat.strongRecOn generalizing lo hi with
 | ind n ih =>
  subst hn
  by_cases hl:lo < hi
  ·have m1:=(half lo hi).1 hl
   have m2:=(half lo hi).2 hl
   rw [fe lt hl,fe lt' hl]
   generalize (lo + hi) / 2=m at m1 m2 ⊢
   rw [h m m1 m2]
   split
   ·exact ih _ (oS hl m1) (fun i a b=>h i (Nat.le_trans m1 (Nat.le_of_succ_le a)) b) rfl
   ·exact ih _ (Nat.sub_lt_sub_right m1 m2) (fun i a b=>h i a (Nat.lt_trans b m2)) rfl
  ·rw [gL lt hl,gL lt' hl]
theorem B8 {l:List Nat} {f:Nat→Int} {k x:Nat} {z:Int} (hk:k≤l.length):eV (l.map f++[z]) k (f x)=(eV l k x).map f++[z]:=by
 unfold eV
 rw [List.take_append_of_le_length (by rw [List.length_map];exact hk),List.drop_append_of_le_length (by rw [List.length_map];exact hk), ← List.map_take, ← List.map_drop]
 simp
theorem Ca (f:Nat→Nat) (l:List Nat):∀ zs:List Nat,(byV f zs l.reverse).length=(byV f zs l).length:=by
 intro zz
 induction zz with
 | nil =>
  exact rfl
 | cons z zs ih =>
  have:=ih
  unfold byV at this ⊢
  rw [List.flatMap_cons,List.flatMap_cons,List.length_append,List.length_append,this,List.filter_reverse,List.length_reverse]
section
variable {b:Nat→Int} {β:Nat→Nat} (hb:∀ c∈five,b c=(β c:Int)) (h4:∀ c∈five,β c≤4)
include hb h4
theorem n0:∀ i≤5,rowAt b i=byV β (List.range 5) (five.take i).reverse:=by
 intro zz
 induction zz with
 | zero =>
  intro _
  exact rfl
 | succ i ih =>
  intro hi
  have hx:=fj (i:=i) (by lia)
  have hm:∀ c∈byV β (List.range 5) (five.take i).reverse,b c=(β c:Int):=fun c hc=>hb c (List.mem_of_mem_take (List.mem_reverse.mp (kX hc).1))
  rw [rowAt,ih (by lia),Es,hb _ hx,List.map_congr_left hm,Bk (h4 _ hx),fk (by lia),List.reverse_append]
  rfl
theorem JL:∀ i≤5,lk b i=((byV β (List.range 5) (five.take i)).map fun c=>1000 * (β c:Int))++[-1]:=by
 intro zz
 induction zz with
 | zero =>
  intro _
  exact rfl
 | succ i ih =>
  intro hi
  have hx:=fj (i:=i) (by lia)
  have hlen:(byV β (List.range 5) (five.take i)).length=i:=by rw [← ij h4 i (by lia),bH]
  rw [lk,ih (by lia),hb _ hx,fk (by lia)]
  have h4x:=h4 _ hx
  generalize five.getD i 0=x at hx h4x ⊢
  have hk:bis (leI (((byV β (List.range 5) (five.take i)).map fun c=>1000 * (β c:Int))++[-1]) (1000 * (β x:Int))) 0 i=bis (leI ((byV β (List.range 5) (five.take i)).map fun c=>(β c:Int)) (β x:Int)) 0 (byV β (List.range 5) (five.take i)).length:=by
   rw [hlen]
   refine yj fun j _ hj=>?_
   unfold leI
   rw [List.getD_eq_getElem?_getD,List.getD_eq_getElem?_getD,List.getElem?_append_left (by rw [List.length_map,hlen];exact hj),List.getElem?_map,List.getElem?_map,List.getElem?_eq_getElem (by rw [hlen];exact hj)]
   simp only [Option.map_some,Option.getD_some]
   exact congrArg _ (decide_eq_decide.mpr (by lia))
  rw [hk,B8 (f:=fun c=>1000 * (β c:Int)) (a5 _ (Nat.zero_le _)).2,pf h4x]
theorem pK {d:Nat→Int} {c δ:Nat} (hd:d c=(δ:Int)) (hδ:δ≤4):(rowAt b 5).take (dC d b c)=byV β (List.range δ) five.reverse:=by
 have hk:dC d b c=(byV β (List.range δ) five).length:=by
  unfold dC
  have h0:=nN (C:=[]) (A:=(byV β (List.range δ) five).map fun c=>1000 * (β c:Int)) (B:=(byV β ([δ]++(List.range (4 - δ)).map fun k=>δ + 1 + k) five).map fun c=>1000 * (β c:Int)) (D:=[-1]) (ns:=lk b 5) (x:=1000 * (δ:Int)) (hi:=5) ?_ ?_ ?_ ?_
  ·rw [hd]
   simpa using h0
  ·rw [JL hb h4 5 (Nat.le_refl _),bq hδ,bG,List.map_append]
   simp [show five.take 5=five from rfl]
  ·intro a ha
   obtain ⟨x,hx⟩:=bI ha
   have:=nO hx;lia
  ·intro a ha
   obtain ⟨x,hx⟩:=bI ha
   rw [bG] at hx
   rcases apX hx with hx | hx
   ·have:=lH hx;lia
   ·have:=kZ hx;lia
  ·rw [List.length_nil,List.length_map,List.length_map,Nat.zero_add, ← List.length_append, ← bG, ← bq hδ]
   exact (by rw [← ij h4 5 (Nat.le_refl _),bH]:(byV β (List.range 5) (five.take 5)).length=5).symm
 rw [hk,n0 hb h4 5 (Nat.le_refl _), ← Ca,bq hδ,bG,show five.take 5=five from rfl,List.take_append_of_le_length (Nat.le_refl _),List.take_length]
end
end Mine
end
section
namespace Mine
theorem uC {b d:Nat→Int} {β δ:Nat→Nat} (hb:∀ c∈five,b c=(β c:Int)) (h4:∀ c∈five,β c≤4) {c:Nat} (hd:d c=(δ c:Int)) (hδ:δ c≤4):(dY β δ c).Perm ((rowAt b 5).take (dC d b c)):=by
 rw [pK hb h4 hd hδ]
 refine .trans ?_ (ug β _ _).symm
 rw [List.filter_reverse]
 exact (List.reverse_perm _).symm
theorem Cb (β δ:Nat→Nat) (c:Nat):(dY β δ c).Pairwise (· ≤ ·):=five_up5.filter _
noncomputable def bw (f g:Nat→Nat) (c:Nat):Nat:=aA (fun z=>f (ae z)) (fun z=>g (ae z)) (five.idxOf c)
noncomputable def lX (f g:Nat→Nat) (c:Nat):Nat:=cH (fun z=>f (ae z)) (fun z=>g (ae z)) (five.idxOf c)
end Mine
end
section
namespace Mine
section
variable {C:Cx} {w:World} {D:Nat} {X:PX} {c:PS}
structure yl (q₀ R:Led) (q:Array Value×Led):Prop where
 tab:Tab ey q.1.toList q.2
 co:∀ p∈q.2,p.1≠361∧(p∈q₀∨∀ z∈R,z.1 < p.1)
noncomputable def PX.pmC (X:PX) (E:Addr) (n cut:Int):PM:=put (Str.ofString "cut") (.i cut) (put (Str.ofString "changed") (.i n) (put (Str.ofString "told") (.v (.ref E)) X.pm))
theorem Et {os:Led} {b d:Nat→Int} {n y:Nat} (hy:y∈five.take n) {kvs:List (Str×Value)} {sl nx:Led} (hs:iY d b n kvs sl) {oD oc:Obj} {dS kf c':Addr} {vs1:Array Value} {t1:Tok} {pmv ctv:Value} (hoD:oD.IsDictOf (PySem.strKind PySem.Challenge.rw_tc0096_01.prog w) kvs) {F:Fm} {pm:PM} (hcell:F.CellIn pm os) (hpm:look pm (Str.ofString "seen")=some (.v (.ref dS))) {cS cC:Addr} (hS:F.cell (Str.ofString "seen")=some cS) {cut:Int} (hpc:look pm (Str.ofString "cut")=some (.i cut)) (hCt:F.cell (Str.ofString "cut")=some cC)
  (h1:(kf,kla_obj (Str.ofString "<lambda>") ey wH wI wJ [(Str.ofString "seen",cS),(Str.ofString "cut",cC)] pmv c' ctv)∈nx) (h2:(c',oc)∈nx) (hdc:oc.data=.fields vs1) (hvc:vs1[1]?=some (.str ey t1)) (h3:(dS,oD)∈nx) (h4:∀ p∈sl,p∈nx) (u:Tok):KeyIs w kf (os++nx) (.str (one y) u) (gX cut (1000 * b y)):=by
 obtain ⟨o9,v9,m9,d9,e9⟩:=hcell _ _ _ hpm hS
 obtain ⟨o8,v8,m8,d8,t8,e8⟩:=hcell _ _ _ hpc hCt
 obtain rfl:=e9
 obtain rfl:=e8
 obtain ⟨lc,ta,tb,h5,h6⟩:=dW hs hy
 exact ⟨BC (apR h1) (apR h2) hdc hvc (apL m9) d9 (apL m8) d8 (apR h3) hoD h5 (apR (h4 _ h6))⟩
theorem PFr.cut (h:PFr C):(C.fm w S__law_painted).cell (Str.ofString "cut")=some (C.L + 1 + 1 + 1):=(congrArg (List.lookup _) h.cl).trans rfl
theorem Ht (hC:C.Ok w S__law_painted D) (hD:6≤D) (hfr:PFr C) (I:X.Inv w 5 5 5 c) {R:Led} (hR:∀ p∈R,p.1≠361) (m1:(X.lR,W.listOf c.vr.toArray c.nr)∈R) (m2:(X.dS,c.oD)∈R) (m3:∀ p∈c.sl,p∈R) {q₀:Led} {q:Array Value×Led} (hT:yl q₀ R q) {E:Addr} {n cut:Int} {Q:KF}
  (hQ:∀ L zs own q',Crowds own c.vr (fq (aH X.f X.g) (aa X.f X.g) cut) five zs→yl q₀ R q'→Q .next (put (Str.ofString "less") (.v (.ref L)) (X.pmC E n cut)) ((L,W.listOf zs.toArray zs.length)::(own++(361,tabObj q'.1)::(q'.2++R)))):GoF (C.fm w S__law_painted) (exec (p5b.getD 0 (.Pass default)) (C.fm w S__law_painted).env) (X.pmC E n cut) ((361,tabObj q.1)::(q.2++R)) Q:=by
 have ok:=Cx.fmOk hC
 have hlr:c.vr.length=5:=by rw [I.row.length,List.length_map,bT]
 refine kO ok (by rw [hfr.env];rfl) ?_
 refine bu ok (oy:=none) [(Str.ofString "row",.v (.ref X.lR)),(Str.ofString "seen",.v (.ref X.dS)),(Str.ofString "cut",.i cut)] (fun i=>.s (one (five.getD i 0))) (fun a:Led×Array Value×Led=>a.1++(361,tabObj a.2.1)::(a.2.2++R)) (fun i zs a=>Crowds a.1 c.vr (fq (aH X.f X.g) (aa X.f X.g) cut) (five.take i) zs∧yl q₀ R a.2∧∀ p∈a.1,p.1≠361) ([],q) (dN ok) ⟨⟨rfl,⟨_,fun _=>rfl,hfr.row⟩,rfl,rfl⟩,⟨rfl,⟨_,fun _=>rfl,hfr.seen⟩,rfl,rfl⟩,⟨rfl,⟨_,fun _=>rfl,hfr.cut⟩,rfl,rfl⟩,trivial⟩ (fun i v hv=>dM hv) (fun i zs a hi h=>?_) (fun _ _ _ _ p hp=>nomatch hp) ⟨⟨.nil,hT,fun p hp=>nomatch hp⟩,fun p hp=>hp⟩ (fun i zs a hi h κ okG Qy Qn hQy _=>?_) (fun zs a E h _=>hQ E zs a.1 a.2 h.1 h.2.1)
 ·rw [h.1.len,List.length_take];exact Nat.le_trans (Nat.min_le_right _ _) (aD rfl)
 ·obtain ⟨own,q1⟩:=a
  obtain ⟨hcr,hT1,ho⟩:=h
  replace hcr:Crowds own c.vr (fq (aH X.f X.g) (aa X.f X.g) cut) (five.take i) zs:=hcr
  obtain ⟨hc,hc5⟩:=dj hi
  have mI:∀ p∈R,p∈own++(361,tabObj q1.1)::(q1.2++R):=fun p hp=>apR (.tail _ (apR hp))
  obtain ⟨lN,ta,tb,hat,hmem⟩:=dW I.seen (x:=five.getD i 0) hc5
  refine sA okG (nJ okG ?_)
  refine bC okG (.v (.ref lN)) (mI _ m2) I.dict rfl hat rfl ?_
  refine aG okG (.v (.int (1000 * aH X.f X.g (five.getD i 0)) ta)) (mI _ (m3 _ hmem)) rfl (Int.le_refl _) (aD rfl) (aD rfl) rfl ?_
  refine bC okG (.v (.ref lN)) (mI _ m2) I.dict rfl hat rfl ?_
  refine aG okG (.v (.int (1000 * aH X.f X.g (five.getD i 0)) ta)) (mI _ (m3 _ hmem)) rfl (Int.le_refl _) (aD rfl) (aD rfl) rfl ?_
  refine DM okG rfl ?_
  refine wh okG (q:=ey) (a:=C.a) (cn:=C.cn) (cs:=S__law_painted) (c:=363) (cl:=cellsFrom (C.L + 1) S__law_painted.names []) (clos:=[(Str.ofString "seen",C.L + 1 + 1 + 1 + 1),(Str.ofString "cut",C.L + 1 + 1 + 1)]) (codes:=q1.2) (X:=own++R) (sI hC.X) rfl ?_ rfl ?_ hT1.tab (apR (.head _)) (fun p hp=>⟨apR (.tail _ (apL hp)),(hT1.co p hp).1⟩) (fun p hp=>?_) fun kf c' oc vs1 t1 pmv ctv ps2 co2 hTab2 hc' hdc hvc hlf hcd2=>?_
  ·exact Bd (clos:=[(Str.ofString "seen",C.L + 1 + 1 + 1 + 1),(Str.ofString "cut",C.L + 1 + 1 + 1)]) (by kernel_rfl) (by kernel_rfl) rfl rfl hfr.cd rfl
  ·show (C.fm w S__law_painted).env.qual++_=_
   rw [hfr.env,hfr.cn]
  ·rcases apX hp with hp | hp
   ·exact ⟨apL hp,ho p hp⟩
   ·exact ⟨mI p hp,hR p hp⟩
  refine wi fun t u v=>?_
  show GoV _ (call (.ref 74) [.ref X.lR,.int (gX cut (1000 * aH X.f X.g (five.getD i 0))) u] [(Str.ofString "key",.ref kf)]) _ _ _
  have hM:∀ p∈R,p∈(kf,kla_obj (Str.ofString "<lambda>") ey wH wI wJ [(Str.ofString "seen",C.L + 1 + 1 + 1 + 1),(Str.ofString "cut",C.L + 1 + 1 + 1)] pmv c' ctv)::(361,tabObj ps2)::(co2++(own++R)):=fun p hp=>.tail _ (.tail _ (apR (apR hp)))
  have e5:((rowAt (aa X.f X.g) 5).map fun x=>gX cut (1000 * aa X.f X.g x)).length=5:=by rw [List.length_map,bT]
  have e6:bis (ltI ((rowAt (aa X.f X.g) 5).map fun x=>gX cut (1000 * aa X.f X.g x)) (gX cut (1000 * aH X.f X.g (five.getD i 0)))) 0 ((rowAt (aa X.f X.g) 5).map fun x=>gX cut (1000 * aa X.f X.g x)).length=fq (aH X.f X.g) (aa X.f X.g) cut (five.getD i 0):=congrArg (bis _ 0) e5
  refine okG.useC hC (d:=4) (by lia) fun os ap hcell=>⟨_,_,fun _ h=>h,Bo (ns:=(rowAt (aa X.f X.g) 5).map fun x=>gX cut (1000 * aa X.f X.g x)) (x:=gX cut (1000 * aH X.f X.g (five.getD i 0))) (t:=u) (pos:=[.ref X.lR,.int (gX cut (1000 * aH X.f X.g (five.getD i 0))) u]) (kw:=[(Str.ofString "key",.ref kf)]) (lo:=0) (tl₀:=331) (apR (hM _ m1)) (by rw [hlr,e5]) (by rw [e5];exact (aD rfl)) (Nat.zero_le _) (apR (.head _)) (fun j v hj=>?_) (fun s X=>kp_binds X (fun _=>rfl)),?_⟩
  ·obtain ⟨y,u3,h1,rfl⟩:=gS I.row j v hj
   have e3:((rowAt (aa X.f X.g) 5).map fun x=>gX cut (1000 * aa X.f X.g x)).getD j 0=gX cut (1000 * aa X.f X.g y):=by rw [List.getD_eq_getElem?_getD,List.getElem?_map,h1];rfl
   rw [e3]
   have kk:=Et (w:=w) (fY (Nat.le_refl 5) (List.mem_of_getElem? h1)) I.seen I.dict hcell rfl rfl rfl rfl (.head _) (.tail _ (.tail _ (apL hc'))) hdc hvc (hM _ m2) (fun p hp=>hM p (m3 p hp)) u3
   exact @KeyIs.spec _ _ _ _ _ kk
  ·rintro v nx' ⟨rfl,t9,rfl⟩
   refine ⟨.i (fq (aH X.f X.g) (aa X.f X.g) cut (five.getD i 0):Nat),_,⟨t9,congrArg (fun n:Nat=>Value.int n t9) e6⟩,fun p hp=>hp,ap,?_⟩
   ·refine ⟨X.lR,c.vr,c.nr,fq (aH X.f X.g) (aa X.f X.g) cut (five.getD i 0),rfl,hM _ m1,rfl,by rw [hlr];decide,fun E hE=>?_⟩
    refine hQy _ _ _ ((E,W.listOf (c.vr.take (fq (aH X.f X.g) (aa X.f X.g) cut (five.getD i 0))).toArray 0)::own,ps2,co2) (fun y hy=>⟨?_,⟨hTab2,fun p hp=>?_⟩,fun p hp=>?_⟩) (fun p hp=>?_) trivial
    ·obtain rfl:=hy
     rw [ba hc]
     exact (hcr.mono fun p hp=>.tail _ hp).snoc (.head _)
    ·exact ⟨(hcd2 p hp).1,(hcd2 p hp).2.elim (fun h=>(hT1.co p h).2) fun h=>.inr fun z hz=>h z (mI z hz)⟩
    ·rcases cnX hp with rfl | hp
     ·exact Nat.ne_of_gt (hE (361,tabObj ps2) (.tail _ (.head _)))
     ·exact ho p hp
    ·rcases apX hp with hp | hp
     ·rcases cnX hp with rfl | hp
      ·exact .head _
      ·exact .tail _ (.tail _ (.tail _ (apR (apL hp))))
     ·rcases cnX hp with rfl | hp
      ·exact .tail _ (.tail _ (.head _))
      ·exact .tail _ (.tail _ (.tail _ ((apX hp).elim (apL) fun hp=>apR (apR hp))))
end
section
variable {C:Cx} {w:World} {D:Nat} {X:PX} {c:PS}
noncomputable def PX.restC (X:PX) (c:PS) (E:Addr) (ys:List Value) (own:Led):Led:=(E,W.listOf ys.toArray ys.length)::(own++(X.lR,W.listOf c.vr.toArray c.nr)::(X.lV,W.listOf c.vv.toArray c.nv)::(X.dS,c.oD)::(c.sl++X.fix))
theorem i0 {c:Nat} (h:c∈five):c < 1114112:=by
 have:(five.all fun c=>decide (c < 1114112))=true:=by kernel_rfl
 simpa using List.all_eq_true.mp this c h
theorem n5 (b:Nat→Int) (k:Nat→Nat):∀ r∈five.map (fun c=>(rowAt b 5).take (k c)),∀ c∈r,c < 1114112:=fun r hr c hc=>by
 obtain ⟨z, -, rfl⟩:=List.mem_map.mp hr
 exact i0 (fY (Nat.le_refl 5) (List.mem_of_mem_take hc))
theorem Cd {p:Prop} [Decidable p]:(if (!decide p)=true then (1:Int) else 0)=if p then 0 else 1:=by
 by_cases h:p
 ·rw [decide_eq_true h,if_pos h];rfl
 ·rw [decide_eq_false h,if_neg h];rfl
theorem JM (hC:C.Ok w S__law_painted D) (hD:9≤D) (hfr:PFr C) (H:X.Ok w) (I:X.Inv w 5 5 5 c) {E:Addr} {ys:List Value} {own:Led} (hcr:Crowds own c.vr (dC (aH X.f X.g) (aa X.f X.g)) five ys) (how:∀ p∈own,p.1≠361) {Q:KF}
  (hQ:∀ q',yl c.co (X.restC c E ys own) q'→Q .next (put (Str.ofString "changed") (.i (cT (aH X.f X.g) (aa X.f X.g) ((ay X.f 5).1.length - 1))) (put (Str.ofString "told") (.v (.ref E)) X.pm)) ((361,tabObj q'.1)::(q'.2++X.restC c E ys own))):GoF (C.fm w S__law_painted) (exec (B__law_painted.getD 5 (.Pass default)) (C.fm w S__law_painted).env) (put (Str.ofString "told") (.v (.ref E)) X.pm) ((E,W.listOf ys.toArray ys.length)::(own++X.led c)) Q:=by
 have ok:=Cx.fmOk hC
 have h361:(361:Nat) < X.lR:=H.old (361,tabObj #[]) (.head _)
 refine Go.apart ok (a:=E) (b:=361) (o':=tabObj c.ps) (.head _) (.tail _ (apR (.tail _ (.tail _ (.tail _ (.head _)))))) nofun fun n1=>?_
 have hR0:∀ p∈X.restC c E ys own,p.1≠361:=fun p hp=>by
  rcases cnX hp with rfl | hp
  ·exact n1
  ·rcases apX hp with hp | hp
   ·exact how p hp
   ·rcases cnX hp with rfl | hp
    ·exact Nat.ne_of_gt h361
    ·rcases cnX hp with rfl | hp
     ·exact Nat.ne_of_gt (Nat.lt_trans h361 H.rv)
     ·rcases cnX hp with rfl | hp
      ·exact Nat.ne_of_gt (Nat.lt_trans h361 (Nat.lt_trans H.rv H.vs))
      ·exact (apX hp).elim (fun hp=>(I.sep p (apR hp)).1) (H.fx p)
 have hlb:X.vtb.length=(ay X.f 5).1.length:=H.ib.length
 have h5:(ay X.f 5).1.length≤5:=gU X.f 5
 obtain ⟨r1,r2⟩:=xD h5
 refine iR hC ?_
 refine cN ok (List.mem_cons_of_mem _ (apR (.tail _ (.tail _ (.tail _ (.tail _ (apR (apR (.tail _ (.tail _ (.head _)))))))))):(X.lSb,W.listOf X.vtb.toArray X.ntb)∈_) hlb (by lia) ?_
 refine And.intro (IntMulOk.of_left (by decide +kernel)) ?_
 refine xW ok rfl rfl rfl (by decide) (PyProof.noPylong_small (by lia)) fun r t u v hr=>?_
 refine sS hC (fun s:Int×Array Value×Led=>put (Str.ofString "changed") (.i s.1) (put (Str.ofString "told") (.v (.ref E)) X.pm)) (fun s=>(361,tabObj s.2.1)::(s.2.2++X.restC c E ys own)) (fun i s=>s.1=cT (aH X.f X.g) (aa X.f X.g) i∧yl c.co (X.restC c E ys own) s.2) (0,c.ps,c.co) (.head _) r1 r2 ⟨⟨rfl,I.tab,fun p hp=>⟨(I.sep p (apL hp)).1,.inl hp⟩⟩,eU (by kernel_rfl),fun p hp=>.tail _ ?_⟩ (fun i s its hi hP hoff Q1 hQ1 hR1=>?_) fun s hP=>hP.1▸hQ s.2 hP.2
 ·rcases cnX hp with rfl | hp
  ·exact .tail _ (apR (.tail _ (.tail _ (.tail _ (.head _)))))
  ·rcases apX hp with hp | hp
   ·exact .tail _ (apR (.tail _ (.tail _ (.tail _ (.tail _ (apL hp))))))
   ·rcases cnX hp with rfl | hp
    ·exact .head _
    ·refine .tail _ ((apX hp).elim (apL) fun hp=>apR ?_)
     rcases cnX hp with rfl | hp
     ·exact .head _
     ·rcases cnX hp with rfl | hp
      ·exact .tail _ (.head _)
      ·rcases cnX hp with rfl | hp
       ·exact .tail _ (.tail _ (.head _))
       ·exact .tail _ (.tail _ (.tail _ (.tail _ (apR hp))))
 ·obtain ⟨n,q⟩:=s
  obtain ⟨rfl,hT⟩:=hP
  replace hT:yl c.co (X.restC c E ys own) q:=hT
  refine ⟨.i (0 + (i:Int) * 1000),(361,tabObj q.1)::(q.2++(its++X.restC c E ys own)),fun t=>⟨t,rfl⟩,fun p hp=>?_,?_⟩
  ·rcases cnX hp with rfl | hp
   ·exact apR (.head _)
   ·rcases apX hp with hp | hp
    ·exact apR (.tail _ (apL hp))
    ·exact (apX hp).elim (apL) fun hp=>apR (.tail _ (apR hp))
  ·have mI:∀ p∈X.restC c E ys own,p∈its++X.restC c E ys own:=fun p hp=>apR hp
   have m0:∀ p∈(X.lR,W.listOf c.vr.toArray c.nr)::(X.lV,W.listOf c.vv.toArray c.nv)::(X.dS,c.oD)::(c.sl++X.fix),p∈its++X.restC c E ys own:=fun p hp=>mI p (.tail _ (apR hp))
   refine Ht hC (by lia) hfr I (R:=its++X.restC c E ys own) (q₀:=q.2) (q:=q) (fun p hp=>(apX hp).elim (fun hp=>Ne.symm (hoff (361,tabObj q.1) (.head _) p hp)) (hR0 p)) (m0 _ (.head _)) (m0 _ (.tail _ (.tail _ (.head _)))) (fun p hp=>m0 p (.tail _ (.tail _ (.tail _ (apL hp))))) ⟨hT.tab,fun p hp=>⟨(hT.co p hp).1,.inl hp⟩⟩ fun L zs own2 q2 hcr2 hT2=>?_
   have m4:∀ p∈its++X.restC c E ys own,p∈(L,W.listOf zs.toArray zs.length)::(own2++(361,tabObj q2.1)::(q2.2++(its++X.restC c E ys own))):=fun p hp=>.tail _ (apR (.tail _ (apR hp)))
   refine uh ok hC (D:=D) (.head _) (m4 _ (mI _ (.head _))) ((hcr2.rows I.row).mono fun p hp=>.tail _ (apL hp)) ((hcr.rows I.row).mono fun p hp=>m4 p (mI p (.tail _ (apL hp)))) (n5 _ _) (n5 _ _) hD ?_
   refine DN ok rfl ?_
   rw [Cd]
   refine hQ1 _ _ (cT (aH X.f X.g) (aa X.f X.g) (i + 1),q2) ⟨rfl,hT2.tab,fun p hp=>⟨(hT2.co p hp).1,?_⟩⟩ (eU (by kernel_rfl)) (fun p hp=>?_) fun p hp z hz=>?_
   ·exact (hT2.co p hp).2.elim (fun h=>(hT.co p h).2) fun h=>.inr fun z hz=>h z (mI z hz)
   ·rcases apX hp with hp | hp
    ·exact m4 p (apL hp)
    ·rcases cnX hp with rfl | hp
     ·exact .tail _ (apR (.head _))
     ·exact .tail _ (apR (.tail _ ((apX hp).elim (apL) fun hp=>apR (mI p hp))))
   ·rcases cnX hp with rfl | hp
    ·exact hoff (361,tabObj q.1) (.head _) z hz
    ·rcases apX hp with hp | hp
     ·exact (hT2.co p hp).2.elim (fun h=>hoff p (.tail _ (apL h)) z hz) fun h=>Nat.ne_of_gt (h z (apL hz))
     ·exact hoff p (.tail _ (apR hp)) z hz
end
end Mine
end
section
namespace Mine
theorem Ce {j:Nat} (h:j < 5):rev5[j]?=some (rev5.getD j 0)∧rev5.getD j 0∈five:=by
 have h':j < rev5.length:=h
 have e:rev5[j]?=some (rev5.getD j 0):=by rw [List.getD_eq_getElem?_getD,List.getElem?_eq_getElem h'];rfl
 exact ⟨e,(by decide:∀ x∈rev5,x∈five) _ (List.mem_of_getElem? e)⟩
theorem Cf {i:Nat} {v:Value} (h:SignAt (Str.ofString "pmkha") i v):(PV.s (one (rev5.getD i 0))).Is v:=by
 obtain ⟨c,u,hc,rfl⟩:=h
 refine ⟨u,?_⟩
 rw [List.getD_eq_getElem?_getD,D5 hc]
 rfl
theorem Cg {G:Fm} {pm:PM} {nx:Led} (ok:G.Ok):oA G 5 (SignAt (Str.ofString "pmkha")) [] (.s (Str.ofString "pmkha")) pm nx:=xM▸nC ok rfl
noncomputable def p6:PySem.Expr:=by refine (fun (_:B__law_painted.getD 6 (.Pass default)=.If (.BoolOp ?a (?y::?f) ?b) ?c ?d ?e)=>?y) ?hh;case hh=>(conv=>lhs;whnf)
theorem Eu {b:Nat→Int} {β:Nat→Nat} (hb:∀ c∈five,b c=(β c:Int)) (h4:∀ c∈five,β c≤4):rowAt b 5=oF β 5 0:=by
 rw [n0 hb h4 5 (Nat.le_refl _)]
 unfold oF
 rw [List.take_zero,wL,List.append_nil]
 rfl
section
variable {C:Cx} {w:World} {D:Nat} {X:PX} {c:PS}
theorem Hv (hC:C.Ok w S__law_painted D) (hD:9≤D) (hfr:PFr C) (I:X.Inv w 5 5 5 c) {β:Nat→Nat} (hb:∀ c∈five,aa X.f X.g c=(β c:Int)) (h4:∀ c∈five,β c≤4) {R:Led} (m1:(X.lR,W.listOf c.vr.toArray c.nr)∈R) (m2:(X.dS,c.oD)∈R) (m3:∀ p∈c.sl,p∈R) {E:Addr} {n:Int} :
  GoB (C.fm w S__law_painted) (isTrue p6 (C.fm w S__law_painted).env (eval p6 (C.fm w S__law_painted).env)) (put (Str.ofString "changed") (.i n) (put (Str.ofString "told") (.v (.ref E)) X.pm)) R fun b pm' nx'=>b=false∧pm'=put (Str.ofString "changed") (.i n) (put (Str.ofString "told") (.v (.ref E)) X.pm)∧∀ p∈R,p∈nx':=by
 have ok:=Cx.fmOk hC
 refine (ar ok 30).2 _ _ _ _ ?_
 refine bF ok (by rw [hfr.env];rfl) ?_
 refine cO rfl (fun r2 t2 u2 v2 hr2=>?_) hC
 refine nH ok (oy:=none) [(Str.ofString "seen",.v (.ref X.dS))] (fun i=>.i i) (fun j=>.s (one (rev5.getD j 0))) (fun _:Unit=>R) (fun i j ys _=>Kv β i j ys) () (fi ok (n:=5) (.head _) rfl rfl) (n2:=5) (It2:=SignAt (Str.ofString "pmkha")) (need2:=[]) ⟨⟨rfl,⟨_,fun _=>rfl,hfr.seen⟩,rfl,rfl⟩,trivial⟩ (fun i v ⟨t,e⟩=>⟨t,by rw [e,Int.zero_add]⟩) (fun j v hv=>Cf hv) (fun i j ys _ hi hj h=>by have:=h.2.2.1;lia) (fun _ _ _ _ _=>⟨fun p hp=>(nomatch hp),fun p hp=>nomatch hp⟩) ⟨⟨by decide,by decide,by decide,.nil⟩,fun p hp=>.tail _ hp⟩ (fun i ys _ hi h=>⟨hi,by decide,by have:=h.2.2.1;lia,xN β i▸h.2.2.2⟩) (fun i ys _ hi h κ okG Qs hQs=>?_) (fun i hi j ys _ hj hJ κ okG Qy Qn hQy hQn=>?_) (fun ys _ E2 hJ hE2=>?_)
 ·exact hQs _ _ _ (Cg okG) ⟨rfl,trivial⟩ fun p hp=>hp
 ·obtain ⟨hc,hc5⟩:=Ce hj
  obtain ⟨lN,ta,tb,hat,hmem⟩:=dW I.seen (x:=rev5.getD j 0) hc5
  refine bC okG (.v (.ref lN)) m2 I.dict rfl hat rfl ?_
  refine aG okG (.v (.int (1000 * aa X.f X.g (rev5.getD j 0)) tb)) (m3 _ hmem) rfl (by decide) (aD rfl) (aD rfl) rfl ?_
  refine And.intro (IntMulOk.of_left (by decide +kernel)) ?_
  have hbj:=hb _ hc5
  refine And.intro (fun he=>?_) fun he=>?_
  ·have he:β (rev5.getD j 0)=i:=by have:=eq_of_beq he;lia
   refine hQy _ _ _ () (fun y ⟨u,hy⟩=>⟨hJ.1,hj,?_,?_⟩) (fun p hp=>hp) ⟨rfl,trivial⟩
   ·have:=hJ.2.2.1;simp only [List.length_append,List.length_singleton];lia
   ·rw [pq β i hc,if_pos he,List.map_append,hy]
    exact StrsAre.snoc hJ.2.2.2 _ _
  ·have he:¬ β (rev5.getD j 0)=i:=fun h=>ne_of_beq_false he (by lia)
   refine hQn _ _ () ⟨hJ.1,hj,?_,?_⟩ (fun p hp=>hp) ⟨rfl,trivial⟩
   ·have:=hJ.2.2.1;lia
   ·rw [pq β i hc,if_neg he]
    exact hJ.2.2.2
 ·have e9:=Eu hb h4
  refine GR ok hC (.tail _ m1) (.head _) I.row hJ.2.2.2 (fun c hc=>i0 (fY (Nat.le_refl 5) hc)) (fun c hc=>i0 (fY (Nat.le_refl 5) (e9▸hc))) hD ?_
  rw [decide_eq_true e9]
  exact ⟨rfl,rfl,fun p hp=>.tail _ hp⟩
end
theorem RowsN.len {news:Led} {xs:List Value} {rs:List (List Nat)} (h:RowsN news xs rs):xs.length=rs.length:=by
 induction h with
 | nil=>rfl
 | cons _ _ _ _ _ _ _ ih=>exact congrArg (· + 1) ih
theorem n6 {F:Fm} {pm:PM} {nx:Led} (ok:F.Ok) {l:Addr} {vs:List Value} {ns ts:List Nat} {n:Nat} {Q:KV} (hm:(l,W.listOf vs.toArray n)∈nx) (hS:StrsAre vs (ns.map one)) (h64:vs.length < 64) (ht:ts.Perm ns) (hu:ts.Pairwise (· ≤ ·)) (h:∀ D vs' e,StrsAre vs' (ts.map one)→(∀ p∈nx,p.1 < D)→Q (.v (.ref D)) pm ((D,W.listOf vs'.toArray e)::nx)):aI F (.builtin "sorted") [.v (.ref l)] pm nx Q:=by
 refine dB fun x hx s P hR hP=>?_
 obtain rfl:=hx
 obtain ⟨m,os,Fr',N,ap,_,mk⟩:=ok.opc hR
 refine xQ Fr' N (apR hm) hS h64 ht hu fun h' D vs' e F' N' lt i=>hP _ _ _ _ _ (h D vs' e i fun p hp=>lt p (apR hp)) rfl (mk h' s.toks _ F' (News.of N' fun p hp=>?_) fun p hp q hq=>?_)
 ·rcases apX hp with hp | hp
  ·exact .tail _ (apL hp)
  ·rcases cnX hp with rfl | hp
   ·exact .head _
   ·exact .tail _ (apR hp)
 ·rcases cnX hq with rfl | hq
  ·exact Nat.ne_of_lt (lt p (apL hp))
  ·exact ap p hp q hq
section
variable {C:Cx} {w:World} {D:Nat} {X:PX} {c:PS}
theorem JN (hC:C.Ok w S__law_painted D) (H:X.Ok w) (I:X.Inv w 5 5 5 c) {β δ:Nat→Nat} (hb:∀ c∈five,aa X.f X.g c=(β c:Int)) (h4:∀ c∈five,β c≤4) (hd:∀ c∈five,aH X.f X.g c=(δ c:Int)) (hδ:∀ c∈five,δ c≤4) {R:Led} {E:Addr} {ys:List Value} {n:Int} (m1:(X.lSa,W.listOf X.vta.toArray X.nta)∈R) (m2:(X.lSb,W.listOf X.vtb.toArray X.ntb)∈R) (mE:(E,W.listOf ys.toArray ys.length)∈R) (hcr:Crowds R c.vr (dC (aH X.f X.g) (aa X.f X.g)) five ys) {Q:KF}
  (hQ:∀ T L zs own u1 u2 u3,RowsN own zs (five.map (dY β δ))→(∀ p∈R,p.1≠T∧p.1≠L∧∀ q∈own,p.1≠q.1)→Q (.ret (.v (.ref T))) (put (Str.ofString "changed") (.i n) (put (Str.ofString "told") (.v (.ref E)) X.pm)) ((T,({ cls:=.type "tuple",data:=.seq #[.ref L,.int ((ay X.f 5).1.length:Int) u1,.int ((ay X.g 5).1.length:Int) u2,.int n u3] }:Obj))::(L,W.listOf zs.toArray zs.length)::(own++R))) :
  SS (C.fm w S__law_painted) (B__law_painted.drop 7) (put (Str.ofString "changed") (.i n) (put (Str.ofString "told") (.v (.ref E)) X.pm)) R Q:=by
 have ok:=Cx.fmOk hC
 have hlr:c.vr.length=5:=by rw [I.row.length,List.length_map,bT]
 have hla:=gU X.g 5
 have hlb:=gU X.f 5
 obtain ⟨u,eu⟩:∃ u:Nat→PV,∀ i,u i=.v (ys.getD i .none):=⟨_,fun _=>rfl⟩
 refine bF ok rfl ?_
 refine bu ok (oy:=none) [] u (fun own:Led=>own++R) (fun i zs own=>RowsN own zs ((five.take i).map (dY β δ))∧∀ q∈own,∀ p∈R,p.1≠q.1) [] (cP ok mE) trivial (fun i v hv=>?_) (fun i zs own hi h=>?_) (fun _ _ _ _ p hp=>apR (sgX hp▸mE)) ⟨⟨.nil,fun q hq=>nomatch hq⟩,fun p hp=>hp⟩ (fun i zs own hi h κ okG Qy Qn hQy _=>?_) (fun zs own L h hL=>?_)
 ·rw [eu i]
  show v=ys.getD i .none
  rw [List.getD_eq_getElem?_getD,hv];rfl
 ·rw [RowsN.len h.1,List.length_map,List.length_take];exact Nat.le_trans (Nat.min_le_right _ _) (aD rfl)
 ·obtain ⟨z,a,k,hz,hv,hm⟩:=hcr.get (i:=i) (v:=ys.getD i .none) (by rw [List.getD_eq_getElem?_getD,List.getElem?_eq_getElem hi];rfl)
  have hz5:z∈five:=List.mem_of_getElem? hz
  rw [eu i,hv]
  refine n6 okG (ns:=(rowAt (aa X.f X.g) 5).take (dC (aH X.f X.g) (aa X.f X.g) z)) (ts:=dY β δ z) (apR hm) (pn _ I.row) (by rw [List.length_take];lia) (uC hb h4 (hd z hz5) (hδ z hz5)) (Cb β δ z) fun L vs e hvs hL=>?_
  refine hQy _ _ _ ((L,W.listOf vs.toArray e)::own) (fun y hy=>⟨?_,fun q hq p hp=>?_⟩) (fun p hp=>hp) trivial
  ·obtain rfl:=hy
   rw [ba hz,List.map_append]
   exact (RowsN.mono h.1 fun p hp=>.tail _ hp).snoc (.head _) hvs
  ·rcases cnX hq with rfl | hq
   ·exact Nat.ne_of_lt (hL p (apR hp))
   ·exact h.2 q hq p hp
 ·obtain ⟨h,hown⟩:=h
  rw [hcr.len] at h
  have mL:∀ p∈R,p∈(L,W.listOf zs.toArray zs.length)::(own++R):=fun p hp=>.tail _ (apR hp)
  refine cN ok (mL _ m2) H.ib.length (by lia) ?_
  refine cN ok (mL _ m1) H.ia.length (by lia) ?_
  refine tR ok (aD rfl) fun T xs hxs hT=>?_
  obtain ⟨x1,x2,x3,x4,h1,h2,h3,h4⟩:=AllIs.four hxs
  obtain rfl:=h1
  obtain ⟨u1,rfl⟩:=h2
  obtain ⟨u2,rfl⟩:=h3
  obtain ⟨u3,rfl⟩:=h4
  exact hQ T L zs own u1 u2 u3 h fun p hp=>⟨Nat.ne_of_lt (hT p (mL p hp)),hL p (apR hp),fun q hq=>hown q hq p hp⟩
end
end Mine
end
section
namespace Mine
open PyProof.Rows
def rI (o:Obj) (ax:Addr) (i:Nat):Prop:=o.cls=.type "list_iterator"∧o.data=.fields #[.ref ax,.int i 0]
section
variable {prog:Program} {w:World} {A:Around} {E:Value→Shared→Prop} {s:Shared} {g:Heap} {L:Addr} {m:Str→Option Value} {news:List (Addr×Obj)} {I ax:Addr} {oI:Obj} {vs:List Value} {n i:Nat}
theorem ym {v:Value} {Q:Option Value→Shared→Prop} (hh:A.handled=none) (F:Fr g L s.heap m) (N:News g L s.heap ((I,oI)::(ax,W.listOf vs.toArray n)::news)) (hne:ax≠I) (off:∀ p∈news,p.1≠I) (hI:rI oI ax i) (hv:vs[i]?=some v)
  (k:∀ h' oI' tk,Fr g L h' m→News g L h' ((I,oI')::(ax,W.listOf vs.toArray n)::news)→rI oI' ax (i + 1)→Q (some v) { s with heap:=h',toks:=tk }):wpAny (model prog w) A (pyNext (.ref I)) Q E s:=by
 have hm:=N _ (.head _)
 have hl:=News.isList N (.tail _ (.head _))
 have W:=Walks.list (prog:=prog) (w:=w) hh I ax hne vs.toArray
 refine W.item i s Q E (by simpa using (List.getElem?_eq_some_iff.mp hv).1) ⟨⟨oI,hm.1,hI.1,hI.2⟩,hl⟩ fun v' h' tk hP hst hk=>?_
 have:v'=v:=by
  have hP':vs.toArray[i]?=some v':=hP
  rw [List.getElem?_toArray,hv] at hP'
  exact (Option.some.inj hP').symm
 subst this
 obtain ⟨oI',ho,hc,hd⟩:=hst.1
 refine k h' oI' tk (LCg.fr_but F hk (Ne.symm hm.2.1) hm.2.2) (fun p hp=>?_) ⟨hc,hd⟩
 rcases cnX hp with rfl | hp
 ·exact ⟨ho,hm.2⟩
 ·have z:=N p (.tail _ hp)
  refine ⟨hk _ _ ?_ z.1,z.2⟩
  rw [List.mem_singleton]
  rcases cnX hp with rfl | hp
  ·exact hne
  ·exact off p hp
theorem Ci {Q:Option Value→Shared→Prop} (hh:A.handled=none) (F:Fr g L s.heap m) (N:News g L s.heap ((I,oI)::(ax,W.listOf vs.toArray n)::news)) (hne:ax≠I) (off:∀ p∈news,p.1≠I) (hI:rI oI ax vs.length)
  (k:∀ h' tk,Fr g L h' m→News g L h' news→Q none { s with heap:=h',toks:=tk }):wpAny (model prog w) A (pyNext (.ref I)) Q E s:=by
 have hm:=N _ (.head _)
 have hl:=News.isList N (.tail _ (.head _))
 have W:=Walks.list (prog:=prog) (w:=w) hh I ax hne vs.toArray
 refine W.done s Q E ⟨⟨oI,hm.1,hI.1,by simpa using hI.2⟩,hl⟩ fun h' tk hk=>?_
 refine k h' tk (LCg.fr_but F hk (Ne.symm hm.2.1) hm.2.2) fun p hp=>?_
 have z:=N p (.tail _ (.tail _ hp))
 exact ⟨hk _ _ (by rw [List.mem_singleton];exact off p hp) z.1,z.2⟩
end
section
variable {prog:Program} {w:World} {A₀ A:Around} {s:Shared} {base h₀ g₀:Heap} {outer:List Env} {env:Env} {L a:Addr} {m:Str→Option Value} {news:List (Addr×Obj)} {K:Frag} {p:Program} {loose:List Str} {mean:ExcName→Option Value} {mg mb:Str→Option Value}
  {R:Result→Shared→Prop} {name qual:Str} {params:Arguments} {body:List Stmt} {scope:Scope} {dV kV doc pm cdv ct oc:Value} {an od:Option Addr} {osl:Array (Option Value)} {f:Addr} {args:Args} {binds:List (Str×Value)}
theorem i4 {b:Addr} (hf:env.frame=some L) (hm:b∈(env::outer).filterMap (·.frame)):b=L∨b∈outer.filterMap (·.frame):=by
 obtain ⟨env',he,hf'⟩:=List.mem_filterMap.mp hm
 rcases cnX he with rfl | he
 ·exact .inl (Option.some.inj (hf'.symm.trans hf))
 ·exact .inr (List.mem_filterMap.mpr ⟨env',he,hf'⟩)
theorem w0 (B:Below A₀ base outer h₀) (F:Fr h₀ L s.heap m) (N:News h₀ L s.heap news) (hA:A.frames=some (env::outer)) (hf:env.frame=some L) (hke:env.scope.kind=.function) :
  ∃ oL es ep, (hideAll s.heap (news.map (·.1))).get? L = some oL ∧ oL.data = .dict es ep ∧ (∀ h', h'.get? L = some oL → Heap.Ns h' L m) ∧ (∀ (sl : Array (Option Value)) h', h'.get? L = some { oL with slots := sl } → Heap.Ns h' L m) ∧
   h₀.StaysIn (hideAll s.heap (news.map (·.1)))∧Below A base (env::outer) (hideAll s.heap (news.map (·.1))):=by
 obtain ⟨FG,BG,st,_⟩:=groundX (R:=fun _ _=>True) B F N hA hf hke
 obtain ⟨oL,es,ep,hL,hLd,hLk,hLf⟩:=FG.ns
 exact ⟨oL,es,ep,hL,hLd,fun h' e=>⟨oL,es,ep,e,hLd,hLk,hLf⟩,fun sl h' e=>⟨_,es,ep,e,hLd,hLk,hLf⟩,st,BG⟩
theorem turned (B:Below A₀ base outer h₀) (F:Fr h₀ L s.heap m) (hf:env.frame=some L) {G:Heap} (st:h₀.StaysIn G) {oL:Obj} (hLg:G.get? L=some oL) (hNs:∀ (sl:Array (Option Value)) h',h'.get? L=some { oL with slots:=sl }→Heap.Ns h' L m) {s':Shared} {g':Heap} {L':Addr} {m':Str→Option Value} {news':List (Addr×Obj)}
  (T':KtsTurn ((env::outer).filterMap (·.frame)) G g') (F':Fr g' L' s'.heap m') (N':News g' L' s'.heap news') :
  ∃ h₀',KtsTurn (outer.filterMap (·.frame)) h₀ h₀'∧Fr h₀' L s'.heap m∧News h₀' L s'.heap news'∧Below A₀ base outer h₀':=by
 have nL₀:h₀.get? L=none:=kts_self F
 obtain ⟨sl,hs⟩:=T'.up hLg
 obtain ⟨T₁,S₁⟩:=kts_turn_at (h:=s'.heap) (fs:=outer.filterMap (·.frame)) (g:=h₀)
  (fun b hb=>by
   obtain ⟨_,o,ho',_⟩:=B.frames.mem hb
   exact ⟨o,ho'⟩)
  (fun b o e nmem=>F'.keep b o (T'.other b o (st b o e) (fun q=>by
   rcases i4 hf q with z | z
   ·rw [z,nL₀] at e
    exact aV e
   ·exact nmem z)))
  (fun b o e hm=>by
   obtain ⟨sl',hs'⟩:=T'.up (st b o e)
   exact ⟨sl',F'.keep _ _ hs'⟩)
 have B₃:Below A₀ base outer (ktsHeap s'.heap (outer.filterMap (·.frame)) h₀):=⟨B.stack,fun b o e=>T₁.other b o (B.stays b o e) (fun hm=>by
  rw [(B.frames.mem hm).1] at e
  exact aV e),B.frames.of_keeps fun b o e _=>by
  obtain ⟨sl',hs'⟩:=T₁.up e
  exact ⟨_,hs',rfl⟩⟩
 refine ⟨_,T₁,⟨hNs sl _ (F'.keep _ _ hs),S₁,by rw [T₁.size];exact F.above⟩,fun p hp=>⟨(N' p hp).1,fun q=>?_,?_⟩,B₃⟩
 ·have:=(N' p hp).2.2;rw [q,hs] at this;cases this
 ·refine T₁.none_ _ ?_
  cases q:h₀.get? p.1 with
  | none=>rfl
  | some o =>
   obtain ⟨sl',hs'⟩:=T'.up (st _ _ q)
   have:=(N' p hp).2.2
   rw [hs'] at this
   cases this
def uD (fs:List Addr) (A₀:Around) (base:Heap) (outer:List Env) (K:Frag) (p:Program) (loose:List Str) (mean:ExcName→Option Value) (mg mb:Str→Option Value) (h₀:Heap) (L:Addr) (m:Str→Option Value) (g:Heap) (R:Result→Shared→Prop) (v:Value) (s':Shared):Prop :=
 ∃ g' L' m' news', KtsTurn fs g g' ∧ Fr g' L' s'.heap m' ∧ News g' L' s'.heap news' ∧ ∀ h₀', KtsTurn (outer.filterMap (·.frame)) h₀ h₀' → Fr h₀' L s'.heap m → News h₀' L s'.heap news' → Below A₀ base outer h₀' → K.In h₀' → Top p loose mean mg mb h₀' →
  KtsDicts (outer.filterMap (·.frame)) h₀'→R (.ok (.ret v)) s'
theorem yn (B:Below A₀ base outer h₀) (F:Fr h₀ L s.heap m) (X₀:K.In h₀) (N:News h₀ L s.heap news) (T:Top p loose mean mg mb h₀) (XB:K.In base) (TB:Top p loose mean mg mb base) (D:KtsDicts (outer.filterMap (·.frame)) h₀)
  (hA:A.frames=some (env::outer)) (hf:env.frame=some L)
  (ho:K.lookup f=some ⟨oc,od,.func (fnOf name qual params body scope dV kV doc pm an cdv ct),osl⟩) (hcd:codeIn K cdv qual=true) (hroom:A.depth < recursionLimit)
  (hbind:BindsTo s (fnOf name qual params body scope dV kV doc pm an cdv ct) args binds) (hloc:∀ y∈binds,scope.names.lookup y.1=some .local)
  (h:∀ g L' h₁,Fr h₀ L g m→Fr g L' h₁ (fun y=>binds.reverse.lookup y)→News g L' h₁ news→Below A base (env::outer) g→K.In g→Top p loose mean mg mb g→KtsDicts ((env::outer).filterMap (·.frame)) g →
   wpAny (model prog w) (A.deeper (envOf qual scope L' f cdv)) (execs body (envOf qual scope L' f cdv))
    (fun fl s'=>uD ((env::outer).filterMap (·.frame)) A₀ base outer K p loose mean mg mb h₀ L m g R (match fl with | .ret v=>v | _=>.none) s')
    (fun e s'=>wpAny (model prog w) (A.deeper (envOf qual scope L' f cdv)) (leaving (envOf qual scope L' f cdv) e) (fun _ s''=>R (.error e) s'') (fun e' s''=>R (.error e') s'') s')
    { s with heap:=h₁,toks:=s.toks + binds.length })
  (hke:env.scope.kind=.function) (hco:scope.isCoroutine=false) (hgen:scope.isGenerator=false) (hk:scope.kind=.function)
  (hcell:∀ x∈scope.names,x.2≠.cell):codeAny (model prog w) A (.call (.ref f) args) R s:=by
 have X:=X₀.keeps F.keep
 refine codeAny_call_def (fd:=fnOf name qual params body scope dV kV doc pm an cdv ct) (body:=body) (binds:=binds) hroom (X _ _ ho) rfl (T.nolimit.keeps F.keep) (codeRec_of X hcd) rfl hbind hcell hloc (fun h₁ hns hk₁=>?_) hco hgen hk
 obtain ⟨oL,es,ep,hLg,hLd,hN,hNs,st,B₂⟩:=w0 B F N hA hf hke
 refine wpAny_mono (h _ s.heap.objs.size h₁ ⟨hN _ hLg,st,F.above⟩ ⟨hns,fun b o e=>hk₁ b o (of_hideAll _ e),Nat.le_of_eq (hideAll_size _ _)⟩
  (fun p hp=>⟨hk₁ _ _ (N p hp).1,Nat.ne_of_lt (Heap.lt_size (N p hp).1),hideAll_none _ (List.mem_map_of_mem hp)⟩) B₂ (X₀.keeps st) (T.keeps st) (fun b hb=>by
   rcases i4 hf hb with rfl | hb
   ·exact ⟨oL,es,ep,hLg,hLd⟩
   ·obtain ⟨o,es',n',ho',hd'⟩:=D b hb
    exact ⟨o,es',n',st b o ho',hd'⟩)) (fun fl s' hl=>?_) fun _ _ y=>y
 obtain ⟨g',L',m',news',T',F',N',k⟩:=hl
 obtain ⟨h₀',T₁,F₁,N₁,B₁⟩:=turned B F hf st hLg hNs T' F' N'
 exact k h₀' T₁ F₁ N₁ B₁ (XB.keeps B₁.stays) (TB.keeps B₁.stays) (D.turn T₁)
end
abbrev fy (w:World) (f:Value) (pos:List Value) (kw:List (Str×Value)) (D:Nat) (news:List (Addr×Obj)) (Post:Value→List (Addr×Obj)→Prop):Prop :=
 ∀ {p : Program} {loose : List Str} {mean : ExcName → Option Value} {mg mb : Str → Option Value} {dp un : Nat} {gd : Option (List Code)} {cn : Str} {nm : List (Str × NameKind)} {b1 b2 : Bool} {mr : List (Str × Const)} {a : Addr} {ccd : Value} {cl : List (Str × Addr)} {outer : List Env} {A₀ : Around} {base h₀ : Heap} {L : Addr} {m : Str → Option Value} {s : Shared} {Q E : Value → Shared → Prop},
  Below A₀ base outer h₀→Fr h₀ L s.heap m→(K w.params).In h₀→News h₀ L s.heap news→Top p loose mean mg mb h₀→(K w.params).In base→Top p loose mean mg mb base→KtsDicts (outer.filterMap (·.frame)) h₀→dp + D < recursionLimit→un + 8 * D < cLine →
  (∀ v news' h' tk' h₀',KtsTurn (outer.filterMap (·.frame)) h₀ h₀'→Post v news'→Fr h₀' L h' m→News h₀' L h' news'→Below A₀ base outer h₀'→(K w.params).In h₀'→Top p loose mean mg mb h₀'→KtsDicts (outer.filterMap (·.frame)) h₀'→Q v { s with heap:=h',toks:=tk' }) →
  wpAny (model PySem.Challenge.rw_tc0096_01.prog w) (ktrTop dp un gd cn ⟨.function,nm,b1,b2,mr⟩ L a ccd cl outer) (call f pos kw) Q E s
section
variable {prog:Program} {w:World} {A₀ A:Around} {s:Shared} {base h₀ g₀:Heap} {outer:List Env} {env:Env} {L a:Addr} {m:Str→Option Value} {news:List (Addr×Obj)} {K:Frag} {p:Program} {loose:List Str} {mean:ExcName→Option Value} {mg mb:Str→Option Value}
  {R:Result→Shared→Prop} {name qual:Str} {params:Arguments} {body:List Stmt} {scope:Scope} {dV kV doc pm cdv ct oc:Value} {an od:Option Addr} {osl:Array (Option Value)} {f:Addr} {args:Args} {binds:List (Str×Value)}
theorem uE (B:Below A₀ base outer h₀) (F:Fr h₀ L s.heap m) (X₀:K.In h₀) (N:News h₀ L s.heap news) (T:Top p loose mean mg mb h₀) (XB:K.In base) (TB:Top p loose mean mg mb base) (D:KtsDicts (outer.filterMap (·.frame)) h₀)
  (hA:A.frames=some (env::outer)) (hf:env.frame=some L) (hke:env.scope.kind=.function)
  (ho:K.lookup f=some ⟨oc,od,.func (fnOf name qual params body scope dV kV doc pm an cdv ct),osl⟩) (hcd:codeIn K cdv qual=true) (hroom:A.depth < recursionLimit)
  (hbind:BindsTo s (fnOf name qual params body scope dV kV doc pm an cdv ct) args binds) (hkind:(binds.all fun y=>scope.names.lookup y.1==some .local || scope.names.lookup y.1==some .cell)=true)
  (hnd:((cellsFrom 0 scope.names []).map (·.1)).Nodup)
  (h:∀ g L' h₁ tk cells,Fr h₀ L g m→Fr g L' h₁ (bindL (envOfC qual scope L' f cdv).kindOf binds fun _=>none)→News g L' h₁ (cells++news) →
   CellsAre (bindC (envOfC qual scope L' f cdv).kindOf binds fun _=>none) (cellsFrom (L' + 1) scope.names []) cells→Below A base (env::outer) g→K.In g→Top p loose mean mg mb g→KtsDicts ((env::outer).filterMap (·.frame)) g→(∀ p∈news,p.1 < L') →
   wpAny (model prog w) (A.deeper (envOfC qual scope L' f cdv)) (execs body (envOfC qual scope L' f cdv))
    (fun fl s'=>uD ((env::outer).filterMap (·.frame)) A₀ base outer K p loose mean mg mb h₀ L m g R (match fl with | .ret v=>v | _=>.none) s')
    (fun e s'=>wpAny (model prog w) (A.deeper (envOfC qual scope L' f cdv)) (leaving (envOfC qual scope L' f cdv) e) (fun _ s''=>R (.error e) s'') (fun e' s''=>R (.error e') s'') s')
    { s with heap:=h₁,toks:=tk })
  (hco:scope.isCoroutine=false) (hgen:scope.isGenerator=false) (hk:scope.kind=.function):codeAny (model prog w) A (.call (.ref f) args) R s:=by
 obtain ⟨FG,BG,_,_⟩:=groundX (R:=R) B F N hA hf hke
 obtain ⟨oL,es,ep,hLg,hLd,hN,hNs,st,B₂⟩:=w0 B F N hA hf hke
 refine codeAny_call_function (fd:=fnOf name qual params body scope dV kV doc pm an cdv ct) hroom ((X₀.keeps F.keep) _ _ ho) rfl hco hgen rfl (codeRec_of (X₀.keeps F.keep) hcd) (hbind _ _ _ _ ?_)
 refine wpAny_newFunctionEnv_cells hk (kindsX hkind _) fun env' he s' x=>?_
 subst he
 refine ⟨(T.nolimit.keeps F.keep).keeps x.toInCall.keep,codeAny_func ?_⟩
 obtain ⟨h₁,tk,rfl,_⟩:=x.done
 have hk₁:=x.toInCall.keep
 obtain ⟨cells,NC,Y⟩:=Cl.news (h₀:=s.heap) (Nat.le_refl _) fun n c hm=>⟨x.cell n c (lookup_of_mem_nodup (cellsFrom_names scope.names 0 (s.heap.objs.size + 1) [] [] rfl▸hnd) hm),x.above n c hm⟩
 refine wpAny_mono (h _ s.heap.objs.size h₁ tk cells FG ⟨x.toInCall.ns,fun b o e=>hk₁ b o (of_hideAll _ e),Nat.le_of_eq (hideAll_size _ _)⟩ (fun p hp=>?_) Y B₂ (X₀.keeps st) (T.keeps st) (fun b hb=>by
   rcases i4 hf hb with rfl | hb
   ·exact ⟨oL,es,ep,hLg,hLd⟩
   ·obtain ⟨o,es',n',ho',hd'⟩:=D b hb
    exact ⟨o,es',n',st b o ho',hd'⟩) (fun p hp=>Heap.lt_size (N p hp).1)) (fun fl s' hl=>?_) fun _ _ y=>y
 ·rcases apX hp with hp | hp
  ·refine ⟨(NC p hp).1,(NC p hp).2.1,?_⟩
   cases q:(hideAll s.heap (news.map (·.1))).get? p.1 with
   | none=>rfl
   | some o=>have:=of_hideAll _ q;rw [(NC p hp).2.2] at this;exact aV this
  ·exact ⟨hk₁ _ _ (N p hp).1,Nat.ne_of_lt (Heap.lt_size (N p hp).1),hideAll_none _ (List.mem_map_of_mem hp)⟩
 ·obtain ⟨g',L',m',news',T',F',N',k⟩:=hl
  obtain ⟨h₀',T₁,F₁,N₁,B₁⟩:=turned B F hf st hLg hNs T' F' N'
  exact k h₀' T₁ F₁ N₁ B₁ (XB.keeps B₁.stays) (TB.keeps B₁.stays) (D.turn T₁)
theorem tg {g g' h:Heap} {L:Addr} {m:Str→Option Value} {news:List (Addr×Obj)} (T:KtsTurn [] g g'):(Fr g' L h m→Fr g L h m)∧(News g' L h news→News g L h news):=by
 refine ⟨fun F=>⟨F.ns,fun b o e=>F.keep b o (T.other b o e (fun h=>nomatch h)),by rw [← T.size];exact F.above⟩,fun N p hp=>⟨(N p hp).1,(N p hp).2.1,?_⟩⟩
 cases q:g.get? p.1 with
 | none=>rfl
 | some o =>
  have:=T.other _ o q (fun h=>nomatch h)
  rw [(N p hp).2.2] at this
  exact aV this
end
end Mine
end
section
namespace Mine
open PyProof.Rows
section
variable {prog:Program} {w:World} {A:Around} {E:Value→Shared→Prop} {s:Shared} {env:Env} {X N I:String}
theorem yo (hc:ExcClass X N I) {rest:List Value} {Q:Value→Shared→Prop}
  (h:∀ h' e,Heap.MadeExc s.heap h' e X rest→Q (.ref e) { s with heap:=h' }) (hrest:rest.length≤sizeLine:=by size_fits) :
  wpAny (model prog w) A (call (.type X) rest) Q E s:=by
 refine wpAny_call (codeAny_of_tree ?_)
 show wpAny _ _ (callAny (.type X) ⟨rest,[]⟩) _ _ s
 simp only [callAny]
 refine wpAny_pure ⟨Code.quiet_builtin _ (by decide +kernel),codeAny_builtin entry_type_call ?_⟩
 rw [Around.under_plain (weight_type_call X _ _) (by first | rfl | kernel_rfl | decide +kernel)]
 unfold Builtin.«type.__call__»
 dsimp only
 rw [if_neg (by rw [hc.notType];exact Bool.false_ne_true),if_neg (by rw [hc.canNew];exact Bool.false_ne_true)]
 obtain ⟨l,hl,hle⟩:=hc.mro
 refine wpAny_bind (wpAny_of_eq (hc.typeCall rest) (wpAny_bind (wpAny_of_eq hl ?_)))
 rw [if_neg (by rw [hle];exact Bool.false_ne_true)]
 refine wpAny_bind (wpAny_of_eq hc.madeBy ?_)
 dsimp only
 refine wpAny_bind (wpAny_pure (wpAny_bind (wpAny_holding (new_exc hc ?_ hrest))))
 refine wpAny_bind (wpAny_isInstance (T:=X) ⟨_,Heap.get?_push_size _ rfl,rfl⟩ hc.self ?_)
 simp only [Bool.not_true,Bool.false_eq_true,if_false]
 refine wpAny_bind (wpAny_holding (wpAny_callSpecial?_slot (name:=Str.ofString "__init__") (T:=X) ⟨_,Heap.get?_push_size _ rfl,rfl⟩ hc.init
  (init_exc hc (Heap.get?_push_size _ rfl) rfl rfl rfl ?_ hrest)))
 dsimp only
 rw [if_neg (by simp)]
 refine wpAny_pure (h _ _ ⟨fun b o hb=>?_,Heap.get?_none_of_le (by simp),_,Heap.get?_update_self _ (Heap.get?_push_of_some _ (Heap.get?_push_size _ rfl)) (Obj.isFreed_of_fields (Obj.data_mapFields rfl _)),Heap.get?_none_of_le (by simp;lia),?_⟩)
 ·rw [Heap.get?_update_other _ _ (Nat.ne_of_gt (Nat.lt_of_lt_of_le (Heap.lt_size hb) (by simp)))]
  exact Heap.get?_push_of_some _ (Heap.get?_push_of_some _ (Heap.get?_push_of_some _ hb))
 ·rw [Heap.get?_update_other _ _ (by simp)]
  exact Heap.get?_push_size _ rfl
theorem mj (hc:ExcClass X N I) {rest:List Value}
  (h:∀ h' e,Heap.MadeExc s.heap h' e X rest→E (.ref e) { s with heap:=h' }) (hrest:rest.length≤sizeLine:=by size_fits):wpAny (model prog w) A (call (.type X) rest) (Raisable E) E s :=
 yo (hrest:=hrest) hc fun h' e hx=>by
  obtain ⟨ob,t,he,hcls,hd⟩:=hx.newExc.there
  exact ⟨e,ob,_,X,N,I,hc,rfl,he,hcls,hd,rfl,h h' e hx⟩
end
end Mine
end
section
namespace Mine
local macro_rules | `(tactic| walk_at "call type:ValueError") => `(tactic| (refine mj excClass_ValueError ?_; intro _ _ _))
local macro_rules | `(tactic| walk_at "call ref") => `(tactic| refine cB ?_)
noncomputable abbrev kA (dp un:Nat) (gd:Option (List Code)) (outer:List Env):Around:={ handled:=none,depth:=dp,frames:=some outer,guards:=gd,units:=un }
abbrev bt (w:World) (f:Value) (pos:List Value) (D:Nat) (news:Led):Prop :=
 ∀ {p : Program} {loose : List Str} {mean : ExcName → Option Value} {mg mb : Str → Option Value} {dp un : Nat} {gd : Option (List Code)} {outer : List Env} {base g : Heap} {L : Addr} {qn : Str} {sc : Scope} {fa : Addr} {qcd : Value} {m : Str → Option Value} {s : Shared} {Q E : Value → Shared → Prop},
  sc.kind=.function→Below (kA dp un gd outer) base outer g→Fr g L s.heap m→(K w.params).In g→News g L s.heap news→Top p loose mean mg mb g→(K w.params).In base→Top p loose mean mg mb base→KtsDicts (outer.filterMap (·.frame)) g→dp + D < recursionLimit→un + 8 * D < cLine →
  (∀ G e t tk k' h',Fr g L G m→RaisedS base G (envOf qn sc L fa qcd::outer) e (.type "ValueError") t [Value.str (Str.ofString "lo must be non-negative") tk] news h'→G.UpToSlots h'→E (.ref e) { s with heap:=h',toks:=k' }) →
  wpAny (model PySem.Challenge.rw_tc0096_01.prog w) ((kA dp un gd outer).deeper (envOf qn sc L fa qcd)) (call f pos []) Q E s
noncomputable abbrev bnd (l:Addr) (z:Str) (u t:Tok):List (Str×Value):=[(Str.ofString "a",.ref l),(Str.ofString "x",.str z u),(Str.ofString "lo",.int (-1) t),(Str.ofString "hi",.none),(Str.ofString "key",.none)]
theorem ti {w:World} {news:Led} {l:Addr} {t u:Tok} {z:Str} {pos:List Value} {D:Nat} (hD:4≤D) (hb:∀ s:Shared,(K w.params).In s.heap→∀ fd,(og w.params).data=.func fd→BindsTo s fd ⟨pos,[]⟩ (bnd l z u t)):bt w (.ref 74) pos D news:=by
 unfold bt;k_fill;intro p loose mean mg mb dp un gd outer base g L qn sc fa qcd m s Q E hk B F X N T XB TB Dc hd hu hret
 refine wpAny_call ?_
 refine code_defS (binds:=bnd l z u t) B F X N T XB TB Dc KtsTurn.refl rfl rfl rfl (by show dp + 1 < _;lia) (hb _ (X.keeps F.keep) _ rfl) (locs rfl) (fun g' L'' h₁ FG F' N' B' X' T' D'=>?_) hk rfl rfl rfl (by decide)
 clear hk B F X N T XB TB Dc hd hb
 k_steps
 exact hret _ _ _ _ _ _ FG ‹_› ‹_›
theorem tj {w:World} {news:Led} {l:Addr} {t u:Tok} {z:Str} {pos:List Value} {D:Nat} (hD:4≤D) (hb:∀ s:Shared,(K w.params).In s.heap→∀ fd,(oa w.params).data=.func fd→BindsTo s fd ⟨pos,[]⟩ (bnd l z u t)):bt w (.ref 56) pos D news:=by
 unfold bt;k_fill;intro p loose mean mg mb dp un gd outer base g L qn sc fa qcd m s Q E hk B F X N T XB TB Dc hd hu hret
 refine wpAny_call ?_
 refine code_defS (binds:=bnd l z u t) B F X N T XB TB Dc KtsTurn.refl rfl rfl rfl (by show dp + 1 < _;lia) (hb _ (X.keeps F.keep) _ rfl) (locs rfl) (fun g' L'' h₁ FG F' N' B' X' T' D'=>?_) hk rfl rfl rfl (by decide)
 clear hk B F X N T XB TB Dc hd hb
 k_steps
 exact hret _ _ _ _ _ _ FG ‹_› ‹_›
theorem Cj {w:World} {news:Led} {l:Addr} {t u:Tok} {z:Str}:bt w (.ref 65) [.ref l,.str z u,.int (-1) t] 8 news:=by
 unfold bt;k_fill;intro p loose mean mg mb dp un gd outer base g L qn sc fa qcd m s Q E hk B F X N T XB TB D hd hu hret
 refine wpAny_call ?_
 refine code_defS (binds:=bnd l z u t) B F X N T XB TB D KtsTurn.refl rfl rfl rfl (by show dp + 1 < _;lia) (kp_binds (X.keeps F.keep) fun _=>rfl) (locs rfl) (fun g' L'' h₁ FG F' N' B' X' T' D'=>?_) hk rfl rfl rfl (by decide)
 clear hk B F X N T D
 k_steps
 unfold aF
 refine ti (D:=4) (Nat.le_refl _) (dp:=dp + 1) (un:=un + 3) (fun s X fd e=>by cases e;exact kp_binds X fun _=>rfl) rfl B' F' X' N' T' XB TB ‹_› (by lia) (by lia) fun G e t tk k' h' F2 R U=>?_
 k_steps
 exact hret _ _ _ _ _ _ FG ‹_› ‹_›
theorem Ck {w:World} {news:Led} {l:Addr} {t u:Tok} {z:Str}:bt w (.ref 47) [.ref l,.str z u,.int (-1) t] 8 news:=by
 unfold bt;k_fill;intro p loose mean mg mb dp un gd outer base g L qn sc fa qcd m s Q E hk B F X N T XB TB D hd hu hret
 refine wpAny_call ?_
 refine code_defS (binds:=bnd l z u t) B F X N T XB TB D KtsTurn.refl rfl rfl rfl (by show dp + 1 < _;lia) (kp_binds (X.keeps F.keep) fun _=>rfl) (locs rfl) (fun g' L'' h₁ FG F' N' B' X' T' D'=>?_) hk rfl rfl rfl (by decide)
 clear hk B F X N T D
 k_steps
 unfold aF
 refine tj (D:=4) (Nat.le_refl _) (dp:=dp + 1) (un:=un + 3) (fun s X fd e=>by cases e;exact kp_binds X fun _=>rfl) rfl B' F' X' N' T' XB TB ‹_› (by lia) (by lia) fun G e t tk k' h' F2 R U=>?_
 k_steps
 exact hret _ _ _ _ _ _ FG ‹_› ‹_›
section
local macro_rules | `(tactic| walk_at $k:str) => if ["compareOp NotEq ref ref", "callWith ref"].contains k.getString then `(tactic| refine cB ?_) else Lean.Macro.throwUnsupported
noncomputable def refB:List Stmt:=by refine (fun (_:B__law_refused.getD 1 (.Pass default)=.For ?a ?b ?y ?c ?d)=>?y) ?hh;case hh=>(conv=>lhs;whnf)
noncomputable def Cm:Stmt:=by refine (fun (_:refB.getD 0 (.Pass default)=?y)=>?y) ?hh;case hh=>(conv=>lhs;whnf)
theorem Ky {m:Str→Option Value} {a b c:Str} {x y z:Value} (h1:m a=some x) (h2:m b=some y) (h3:m c=some z):∃ f:Str→Option Value,m=fun n=>if n=a then some x else if n=b then some y else if n=c then some z else f n:=⟨m,funext fun n=>by
 by_cases e:n=a
 ·rw [if_pos e,e,h1]
 ·rw [if_neg e]
  by_cases e:n=b
  ·rw [if_pos e,e,h2]
  ·rw [if_neg e]
   by_cases e:n=c
   ·rw [if_pos e,e,h3]
   ·rw [if_neg e]⟩
theorem Cn {w:World} {f l lh:Addr} (hr:∀ news t u,bt w (.ref f) [.ref l,.str (Str.ofString "k") u,.int (-1) t] 8 news) {o:Obj} {fd:FuncData} (ho:o.data=.func fd) (hK:(K w.params).lookup f=some o)
  {p:Program} {loose:List Str} {mean:ExcName→Option Value} {mg mb:Str→Option Value} {dp un:Nat} {gd:Option (List Code)} {outer:List Env} {base g:Heap} {L:Addr} {m:Str→Option Value} {s:Shared} {Q:Flow→Shared→Prop} {E:Value→Shared→Prop} {news:Led} {vs ws:List Value} {n k:Nat} {cs:List Nat}
  (B:Below (kA dp un gd outer) base outer g) (F:Fr g L s.heap m) (X:(K w.params).In g) (N:News g L s.heap news) (T:Top p loose mean mg mb g) (XB:(K w.params).In base) (TB:Top p loose mean mg mb base) (D:KtsDicts (outer.filterMap (·.frame)) g) (hd:dp + 9 < recursionLimit) (hu:un + 8 * 9 < cLine)
  (hl:(l,W.listOf vs.toArray n)∈news) (hh:(lh,W.listOf ws.toArray k)∈news) (hv:StrsAre vs (cs.map one)) (hw:StrsAre ws (cs.map one)) (h5:∀ c∈cs,c < 1114112)
  (q1:m (Str.ofString "row")=some (.ref l)) (q2:m (Str.ofString "held")=some (.ref lh)) (q3:m (Str.ofString "search")=some (.ref f))
  (H:∀ g' h' tk m',KtsTurn (outer.filterMap (·.frame)) g g'→Fr g' L h' m'→News g' L h' news→Below (kA dp un gd outer) base outer g'→(K w.params).In g'→Top p loose mean mg mb g'→KtsDicts (outer.filterMap (·.frame)) g'→m' (Str.ofString "row")=some (.ref l)→m' (Str.ofString "held")=some (.ref lh)→Q .next { s with heap:=h',toks:=tk }) :
  wpAny (model PySem.Challenge.rw_tc0096_01.prog w) ((kA dp un gd outer).deeper (envOf (Str.ofString "_law_refused") aS L 354 (.ref 353))) (exec Cm (envOf (Str.ofString "_law_refused") aS L 354 (.ref 353))) Q E s:=by
 obtain ⟨f9,rfl⟩:=Ky q1 q2 q3
 clear q1 q2 q3
 revert X;k_fill;intro X
 delta Cm
 k_steps
 unfold aF
 refine callWith_def ho ?_ rfl
 k_steps
 ·exact (X.keeps F.keep) _ _ hK
 unfold aF
 refine hr _ _ _ rfl B F X N T XB TB D (by lia) (by lia) fun G e t tk k' h' F2 R U=>?_
 clear hr ho hK X N F T
 k_steps
 unfold aF
 rename News _ L _ news=>N1
 refine vT (ns:=cs) (ms:=cs) (News.isList N1 hl) (News.isList N1 hh) hv hw h5 h5 (by show un + 3 + 64 < _;lia) ?_
 rw [decide_eq_true rfl]
 k_steps
 rename Fr _ L _ _=>F1
 rename News _ L _ news=>N2
 rename KtsTurn _ _ _=>T1
 rename Below _ _ outer _=>B1
 rename Frag.In _ _=>X1
 rename Top _ _ _ _ _ _=>P1
 rename KtsDicts _ _=>D1
 exact H _ _ _ _ T1 F1 N2 B1 X1 P1 D1 rfl rfl
end
end Mine
end
section
namespace Mine
local macro_rules | `(tactic| walk_at "k_sub") => `(tactic| repeat (first | exact vP | (refine dR ?hq ?_; (case hq => repeat (first | exact .head _ | refine .tail _ ?_))) | refine An ?_))
local macro_rules | `(tactic| walk_at $k:str) => if ["exec For Name List cons nil", "subscriptTail Name Slice ref ref", "exec Try", "exec For", "pyIter ref"].contains k.getString then `(tactic| refine cB ?_) else Lean.Macro.throwUnsupported
theorem Kz {m:Str→Option Value} {a b:Str} {x y:Value} (h1:m a=some x) (h2:m b=some y):∃ f:Str→Option Value,m=fun n=>if n=a then some x else if n=b then some y else f n:=⟨m,funext fun n=>by
 by_cases e:n=a
 ·rw [if_pos e,e,h1]
 ·rw [if_neg e]
  by_cases e:n=b
  ·rw [if_pos e,e,h2]
  ·rw [if_neg e]⟩
theorem iw {c:Nat} (h:c∈five):c < 1114112:=by
 have:(five.all fun c=>decide (c < 1114112))=true:=by kernel_rfl
 simpa using List.all_eq_true.mp this c h
theorem Co {w:World} {l:Addr} {i:Nat} (hi:i < 4):∃ f,([Value.ref 74,Value.ref 56,Value.ref 65,Value.ref 47]:List Value)[i]?=some (.ref f)∧(∀ news t u,bt w (.ref f) [.ref l,.str (Str.ofString "k") u,.int (-1) t] 8 news)∧∃ o fd,o.data=.func fd∧(K w.params).lookup f=some o:=by
 match i,hi with
 | 0,_=>exact ⟨74,rfl,fun _ _ _=>ti (by decide) (fun s X fd e=>by cases e;exact kp_binds X fun _=>rfl),_,_,rfl,rfl⟩
 | 1,_=>exact ⟨56,rfl,fun _ _ _=>tj (by decide) (fun s X fd e=>by cases e;exact kp_binds X fun _=>rfl),_,_,rfl,rfl⟩
 | 2,_=>exact ⟨65,rfl,fun _ _ _=>Cj,_,_,rfl,rfl⟩
 | 3,_=>exact ⟨47,rfl,fun _ _ _=>Ck,_,_,rfl,rfl⟩
structure Grd (w:World) (p:Program) (loose:List Str) (mean:ExcName→Option Value) (mg mb:Str→Option Value) (dp un:Nat) (gd:Option (List Code)) (outer:List Env) (base g:Heap):Prop where
 B:Below (kA dp un gd outer) base outer g
 X:(K w.params).In g
 P:Top p loose mean mg mb g
 D:KtsDicts (outer.filterMap (·.frame)) g
section
variable {w:World} {p:Program} {loose:List Str} {mean:ExcName→Option Value} {mg mb:Str→Option Value} {dp un:Nat} {gd:Option (List Code)} {outer:List Env} {base:Heap} {L l lh lf I:Addr}
noncomputable def JO:PySem.Expr:=by refine (fun (_:B__law_refused.getD 1 (.Pass default)=.For ?y ?a ?b ?c ?d)=>?y) ?hh;case hh=>(conv=>lhs;whnf)
inductive JP (w:World) (p:Program) (loose:List Str) (mean:ExcName→Option Value) (mg mb:Str→Option Value) (dp un:Nat) (gd:Option (List Code)) (outer:List Env) (base g₀:Heap) (L l lh lf I:Addr) (news:Led) (s:Shared) (k:Nat):Shared→Prop
 | mk (i:Nat) (g h:Heap) (tk:Nat) (m:Str→Option Value) (oI:Obj):k=5 - i→i≤4→KtsTurn (outer.filterMap (·.frame)) g₀ g→Fr g L h m→News g L h ((I,oI)::news)→rI oI lf i→Grd w p loose mean mg mb dp un gd outer base g→m (Str.ofString "row")=some (.ref l)→m (Str.ofString "held")=some (.ref lh)→JP w p loose mean mg mb dp un gd outer base g₀ L l lh lf I news s k { s with heap:=h,toks:=tk }
theorem Cp {g₀:Heap} {m:Str→Option Value} {s:Shared} {R:Result→Shared→Prop} {E:Value→Shared→Prop} {news:Led} {vs:List Value} {n:Nat} {cs:List Nat}
  (G:Grd w p loose mean mg mb dp un gd outer base g₀) (F:Fr g₀ L s.heap m) (N:News g₀ L s.heap ((lf,W.listOf [Value.ref 74,Value.ref 56,Value.ref 65,Value.ref 47].toArray 0)::news)) (m1:(lh,W.listOf vs.toArray 0)∈news) (m2:(l,W.listOf vs.toArray n)∈news) (XB:(K w.params).In base) (TB:Top p loose mean mg mb base) (hd:dp + 9 < recursionLimit) (hu:un + 8 * 9 < cLine)
  (hvs:StrsAre vs (cs.map one)) (h5:∀ c∈cs,c∈five) (q1:m (Str.ofString "row")=some (.ref l)) (q2:m (Str.ofString "held")=some (.ref lh))
  (H:∀ g h tk m,KtsTurn (outer.filterMap (·.frame)) g₀ g→Fr g L h m→News g L h news→R (.ok .next) { s with heap:=h,toks:=tk }) :
  wpAny (model PySem.Challenge.rw_tc0096_01.prog w) ((kA dp un gd outer).deeper (envOf (Str.ofString "_law_refused") aS L 354 (.ref 353))) (pyIter (.ref lf)) (fun it s₂=>codeAny (model PySem.Challenge.rw_tc0096_01.prog w) ((kA dp un gd outer).deeper (envOf (Str.ofString "_law_refused") aS L 354 (.ref 353))) (.forLoop JO it refB [] (envOf (Str.ofString "_law_refused") aS L 354 (.ref 353))) R s₂) E s:=by
 revert XB;k_fill;intro XB
 have hlt:∀ p∈news,p.1 < s.heap.objs.size:=fun p hp=>Heap.lt_size (N p (.tail _ hp)).1
 refine wpAny_pyIter_list (News.isList N (.head _)) ?_
 have hlf:lf < s.heap.objs.size:=Heap.lt_size (N _ (.head _)).1
 have hI₀:g₀.get? s.heap.objs.size=none:=next_is_new F
 refine codeAny_forLoop (JP w p loose mean mg mb dp un gd outer base g₀ L l lh lf s.heap.objs.size ((lf,W.listOf [Value.ref 74,Value.ref 56,Value.ref 65,Value.ref 47].toArray 0)::news) s) (fun k s' hJ=>?_) 5 (.mk 0 g₀ _ s.toks m ({ cls:=.type "list_iterator",data:=.fields #[.ref lf,.int 0 0] }:Obj) rfl (by decide) KtsTurn.refl (F.push _) (fun p hp=>?_) ⟨rfl,rfl⟩ G q1 q2)
 ·obtain ⟨i,g,h,tk,m₁,oI,rfl,hi,T1,F1,N1,hIt,G1,q1,q2⟩:=hJ
  rcases Nat.lt_or_ge i 4 with hi4 | hi4
  ·obtain ⟨f,hv,hr,o,fd,ho,hK⟩:=Co (w:=w) (l:=l) hi4
   refine ym rfl F1 N1 (Nat.ne_of_lt hlf) (fun p hp=>Nat.ne_of_lt (hlt p hp)) hIt hv fun h2 oI2 tk2 F2 N2 hIt2=>?_
   clear F1 N1 G F N H
   obtain ⟨f9,rfl⟩:=Kz q1 q2
   clear q1 q2
   delta JO refB
   dsimp only
   k_steps
   unfold aF
   rename News _ L _ (_::_)=>N9
   rename Fr _ L _ _=>F9
   refine Cn hr ho hK G1.B F9 G1.X N9 G1.P XB TB G1.D hd hu (.tail _ (.tail _ m2)) (.tail _ (.tail _ m1)) hvs hvs (fun c hc=>iw (h5 c hc)) rfl rfl rfl fun g9 h9 tk9 m9 T9 F10 N10 B10 X10 P10 D10 q1 q2=>wpAny_execs_nil ?_
   exact ⟨5 - (i + 1),by lia,.mk (i + 1) g9 _ _ m9 oI2 rfl (by lia) (T1.trans T9) F10 N10 hIt2 ⟨B10,X10,P10,D10⟩ q1 q2⟩
  ·obtain rfl:i=4:=by lia
   exact Ci rfl F1 N1 (Nat.ne_of_lt hlf) (fun p hp=>Nat.ne_of_lt (hlt p hp)) hIt fun h2 tk2 F2 N2=>wpAny_execs_nil (H _ _ _ _ T1 F2 N2)
 ·rcases cnX hp with rfl | hp
  ·exact ⟨Heap.get?_push_size _ rfl,Nat.ne_of_gt F.ns.lt,hI₀⟩
  ·exact ⟨Heap.get?_push_of_some _ (N p hp).1,(N p hp).2⟩
end
theorem rJ {w:World} {news:List (Addr×Obj)} {l:Addr} {vs:List Value} {n:Nat} {cs:List Nat} (hvs:StrsAre vs (cs.map one)) (hl:(l,W.listOf vs.toArray n)∈news) (hlen:cs.length=5) (h5:∀ c∈cs,c∈five) :
  fy w (.ref 354) [.ref l] [] 10 news (fun v nx=>nx=news∧v=.bool true):=by
 unfold fy;k_fill;intro p loose mean mg mb dp un gd cn nm b1 b2 mr a ccd cl outer A₀ base h₀ L m s Q E B F X N T XB TB D hd hu hret
 have hvl:vs.length=5:=by rw [hvs.length,List.length_map];exact hlen
 replace N:=News.add N hl
 refine wpAny_call ?_
 refine' yn (binds:=[(Str.ofString "row",Value.ref l)]) ?k1 ?k2 ?k3 ?k4 ?k5 ?kXB ?kTB ?kD ?kA ?kF ?k6 ?k7 ?k8 ?k9 ?kB ?_ ?c1 ?c2 ?c3 ?c4 ?c5
 case kA=>exact rfl
 case kF=>exact rfl
 case k1=>exact B
 case k2=>exact F
 case k3=>exact X
 case k4=>exact N
 case k5=>exact T
 case kXB=>exact XB
 case kTB=>exact TB
 case kD=>exact D
 case k6=>k_is
 case k7=>k_is
 case k8=>ktr_room
 case k9=>exact BindsTo.of_eq rfl
 case kB=>exact locs rfl
 case c1=>exact rfl
 case c2=>exact rfl
 case c3=>exact rfl
 case c4=>exact rfl
 case c5=>decide
 k_whole
 intro g' L' h' FG' F' N' B' X' T' D'
 (try dsimp only)
 (try k_fold)
 k_steps
 unfold aF
 refine kms_slice_lit (zs:=vs) F' N' (News.isList N' (.head _)) .none .none (by simp [kms_pick,kms_lo,kms_hi]) (fun lh hH F9 N9 l9=>?_) (by intros;rfl) (by intro;rfl) (by rw [List.size_toArray,hvl];exact (aD rfl))
 clear F' N'
 k_steps
 unfold aF
 refine wpAny_For ?_
 k_steps
 unfold aF
 rename News g' L' _ (_::_)=>N1
 rename Fr g' L' _ (up _ _ _)=>F1
 refine Cp (dp:=dp) (un:=un) (gd:=gd) (l:=l) (vs:=vs) (n:=n) ⟨B',X',T',D'⟩ F1 N1 (.head _) (.tail _ (.head _)) XB TB (by omega) (by omega) hvs h5 rfl rfl fun g h tk m T1 F9 N9=>?_
 clear F1 N1 B' X' T' D' FG'
 k_steps
 rename News g _ _ _=>N10
 rename Fr g _ _ _=>F10
 show uD _ _ _ _ _ _ _ _ _ _ _ _ _ _ _ _ _
 refine ⟨g,L',_,_,T1,F10,N10,fun h₀' Tt Ft Nt Bt Xt Pt Dt=>hret _ _ _ _ _ Tt ⟨rfl,rfl⟩ Ft (News.of Nt fun p hp=>?_) Bt Xt Pt Dt⟩
 exact .tail _ (.tail _ hp)
end Mine
end
section
namespace Mine
structure Cx.OkT (C:Cx) (w:World) (sc:Scope) (D:Nat):Prop where
 ok:C.Ok w sc D
 XB:(K w.params).In C.base
 TB:Top C.p C.loose C.mean C.mg C.mb C.base
 dc:KtsDicts (C.outer.filterMap (·.frame)) C.h₀
noncomputable def Cx.at (C:Cx) (h:Heap):Cx:={ C with h₀:=h }
def GoT {α β:Type} (C:Cx) (w:World) (sc:Scope) (D:Nat) (r:β→α→Prop) (t:Sem α) (pm:PM) (nx:Led) (Q:β→PM→Led→Prop):Prop :=
 ∀ s (P:α→Shared→Prop),C.R sc pm nx s→(∀ h b a pm' nx' s',KtsTurn (C.outer.filterMap (·.frame)) C.h₀ h→(C.at h).OkT w sc D→Q b pm' nx'→r b a→(C.at h).R sc pm' nx' s'→P a s')→wpAny (C.fm w sc).M (C.fm w sc).A t P NoE s
section
variable {C:Cx} {w:World} {sc:Scope} {pm:PM} {nx:Led} {D:Nat}
theorem Cx.OkT.useT (ok:C.OkT w sc D) {f:Value} {xs:List Value} {kw:List (Str×Value)} {d:Nat} {Q:KV} (hd:d≤D)
  (h:∀ os:Led,(∀ p∈os,∀ q∈nx,p.1≠q.1)→∃ X Post,(∀ p∈X,p∈os++nx)∧fy w f xs kw d X Post∧∀ v nx',Post v nx'→∃ pv nx2,pv.Is v∧(∀ p∈os++nx2,p∈nx')∧(∀ p∈os,∀ q∈nx2,p.1≠q.1)∧Q pv pm nx2):GoT C w sc D PV.Is (call f xs kw) pm nx Q:=by
 obtain ⟨nm,b1,b2,mr,rfl⟩:=q8 ok.ok.kind
 rintro s P ⟨m,cm,os,F,N,Y,ap,ft,h0,k0,rfl⟩ hP
 obtain ⟨X,Post,hX,hs,hq⟩:=h os ap
 refine hs ok.ok.B F ok.ok.X (News.of N hX) ok.ok.T ok.XB ok.TB ok.dc (by have:=ok.ok.dp;lia) (by have:=ok.ok.un;lia) fun v nx' h' tk' h₀' T Po F' N' B' X' T' D'=>?_
 obtain ⟨pv,nx2,hv,hsub,hap,hQ⟩:=hq v nx' Po
 exact hP h₀' pv v pm nx2 _ T ⟨⟨B',X',T',rfl,ok.ok.dp,ok.ok.un,ok.ok.names,ok.ok.addrs,ok.ok.cells⟩,ok.XB,ok.TB,D'⟩ hQ hv ⟨m,cm,os,F',News.of N' hsub,Y,hap,ft,_,_,rfl⟩
def FU (Post:Value→Led→Prop):KF:=fun f _ nx=>∃ nx0,(∀ p∈nx0,p∈nx)∧match f with | .ret v=>∀ y,v.Is y→Post y nx0 | .next=>Post .none nx0 | _=>False
theorem Hw {w:World} {f:Addr} {vals:List Value} {kw:List (Str×Value)} {D:Nat} {news:Led} {Post:Value→Led→Prop} {name qual:Str} {params:Arguments} {body:List Stmt} {scope:Scope} {dV kV doc pm cdv ct oc:Value} {an od:Option Addr} {osl:Array (Option Value)} (binds:List (Str×Value))
  (ho:(K w.params).lookup f=some ⟨oc,od,.func (fnOf name qual params body scope dV kV doc pm an cdv ct),osl⟩) (hcd:codeIn (K w.params) cdv qual=true)
  (hbind:∀ s:Shared,(K w.params).In s.heap→BindsTo s (fnOf name qual params body scope dV kV doc pm an cdv ct) ⟨vals,kw⟩ binds)
  (hb:(ox scope binds && apart binds && fT scope.names && !scope.isCoroutine && !scope.isGenerator)=true) (hk:scope.kind=.function)
  (h:∀ C:Cx,C.OkT w scope D→(∀ p∈news,p.1 < C.L)→C.cl=cellsFrom (C.L + 1) scope.names []→C.cn=qual∧C.ccd=cdv→GoT C w scope D FV.Is (execs body (C.fm w scope).env) (pm0 binds) news (FU Post)) :
  fy w (.ref f) vals kw (D + 1) news Post:=by
 intro p loose mean mg mb dp un gd cn nm b1 b2 mr a ccd cl outer A₀ base h₀ L m s Q E B F X N T XB TB Dc hd hu hret
 simp only [Bool.and_eq_true,Bool.not_eq_true'] at hb
 obtain ⟨⟨⟨⟨hst,hap⟩,hns⟩,hco⟩,hgen⟩:=hb
 have hnd:=fU hns
 have cn0:∀ n,((cellsFrom n scope.names []).map (·.1)).Nodup:=fun n=>dn hnd List.nodup_nil fun x _=>List.not_mem_nil
 refine wpAny_call (uE (binds:=binds) B F X N T XB TB Dc rfl rfl rfl ho hcd (by show dp < _;lia) (hbind s (X.keeps F.keep)) ?_ (cn0 0) ?_ hco hgen hk)
 ·rw [List.all_eq_true]
  intro y hy
  rcases (dJ (fh hst y hy)).1 with e | e <;> rw [e] <;> rfl
 ·intro g L' h₁ tk cells FG F' N' Y B' X' T' D' lN
  have ca:=dT (m:=L' + 1) scope.names (L' + 1) [] (Nat.le_refl _) List.nodup_nil (fun p hp=>nomatch hp)
  refine wpAny_noRaise ?_
  let C:Cx:=⟨dp + 1,un + 3,gd,qual,L',f,cdv,cellsFrom (L' + 1) scope.names [],envX cn ⟨.function,nm,b1,b2,mr⟩ L a ccd cl::outer,ktrTop dp un gd cn ⟨.function,nm,b1,b2,mr⟩ L a ccd cl outer,base,g,s,p,loose,mean,mg,mb⟩
  have ok:C.Ok w scope D:=⟨B',X',T',hk,by show dp + 1 + D < _;lia,by show un + 3 + 8 * D < _;lia,cn0 _,ca.1,fun x hx=>Option.isSome_iff_exists.mp (cellsFrom_some _ _ _ (.inl hx))⟩
  refine h C ⟨ok,XB,TB,D'⟩ lN rfl ⟨rfl,rfl⟩ { s with heap:=h₁,toks:=tk } _ ⟨_,_,cells,F',N',Y,fun p hp q hq=>?_,fun x pv hl=>?_,h₁,tk,rfl⟩ ?_
  ·have h1:p.1∈cells.map (·.1):=List.mem_map_of_mem hp
   rw [fP Y] at h1
   obtain ⟨z,hz,e⟩:=List.mem_map.mp h1
   have h2:=ca.2 z hz
   have h3:=lN q hq
   rw [e] at h2
   exact Nat.ne_of_gt (Nat.lt_of_lt_of_le h3 (Nat.le_of_succ_le h2))
  ·obtain ⟨v,rfl,hm⟩:=kL hl
   obtain ⟨hkd,hdb⟩:=dJ (fh hst _ hm)
   have hg:=sf (kd:=(envOfC qual scope L' f cdv).kindOf) (m:=fun _=>none) (gM hap) hm
   rcases hkd with e | e
   ·exact .loc v hdb rfl e (hg.1 e)
   ·refine (Option.isSome_iff_exists.mp (cellsFrom_some _ _ _ (.inl e))).elim fun c hc=>.cel v c hdb rfl (.inl e) hc (hg.2 fun q=>?_)
    ·have:some NameKind.cell=some NameKind.local:=e.symm.trans q
     cases this
  ·rintro g' fv fl pm' nx' s' hT okT ⟨nx0,hn0,hq⟩ hfl ⟨m',cm,os,F2,N2,Y2,ap2,ft2,h2,k2,rfl⟩
   refine ⟨g',L',_,nx0,hT,F2,News.of N2 fun p hp=>apR (hn0 p hp),fun h₀' T1 F1 N1 B1 X1 P1 D1=>?_⟩
   cases fv with
   | ret pv=>obtain ⟨y,rfl,hy⟩:=hfl;exact hret _ _ _ _ _ T1 (hq y hy) F1 N1 B1 X1 P1 D1
   | next=>obtain rfl:=hfl;exact hret _ _ _ _ _ T1 hq F1 N1 B1 X1 P1 D1
   | brk=>exact hq.elim
   | cont=>exact hq.elim
theorem Cq (ok:C.OkT w sc D) {x:Str} {a:Addr} {p pos:Pos} {e:Expr} {es:List Expr} {Q:KV} (h:bN (WW (C.fm w sc) 30).1 (e::es) pm nx fun vs pm nx=>∀ xs,AllIs vs xs→GoT C w sc D PV.Is (call (.ref a) xs) pm nx Q) (hg:(C.fm w sc).glob x=some (.ref a):=by rfl) (hf:fnB a=true:=by rfl):GoT C w sc D PV.Is (eval (.Call (.Name x p) (e::es) [] pos) (C.fm w sc).env) pm nx Q:=by
 intro s P hR hP
 have okF:=Cx.fmOk ok.ok
 obtain ⟨o,fd,hd,ho⟩:=okF.func (a:=a) hf
 exact Call_ (okF.globR hR hg (callWith_def hd (bS (ar okF 30).1 pos h hR fun vs as pm' nx' s' q hv hR'=>⟨ho hR',q as hv s' _ hR' hP⟩) (aW (bh h) _ _)))
theorem yp {S:Stmt→PM→Led→KF→Prop} {b:List Stmt} {Q:KF}:∀ (a:List Stmt) (pm:PM) (nx:Led),listS S a pm nx (fun f pm nx=>match f with | .next=>listS S b pm nx Q | .brk=>Q .brk pm nx | .cont=>Q .cont pm nx | .ret v=>Q (.ret v) pm nx)=listS S (a++b) pm nx Q:=by
 intro zz
 induction zz with
 | nil =>
  intro _ _
  exact rfl
 | cons st a ih =>
  intro pm nx
  exact congrArg (S st pm nx) (funext fun f=>funext fun pm=>funext fun nx=>by
   cases f with
   | next=>exact ih pm nx
   | brk=>rfl
   | cont=>rfl
   | ret v=>rfl)
theorem Cr {F:Fm} {a b:List Stmt} {Q:KF} {pm:PM} {nx:Led} (h:SS F a pm nx (fun f pm nx=>match f with | .next=>SS F b pm nx Q | .brk=>Q .brk pm nx | .cont=>Q .cont pm nx | .ret v=>Q (.ret v) pm nx)):SS F (a++b) pm nx Q:=(yp a pm nx).mp h
theorem JQ {S:Stmt→PM→Led→KF→Prop} (hS:∀ st pm nx Q,S st pm nx Q→GoF (C.fm w sc) (exec st (C.fm w sc).env) pm nx Q) {b:List Stmt} {Q:KF}:∀ (a:List Stmt) {pm:PM} {nx:Led},listS S a pm nx (fun f pm nx=>f=.next∧GoT C w sc D FV.Is (execs b (C.fm w sc).env) pm nx Q)→GoT C w sc D FV.Is (execs (a++b) (C.fm w sc).env) pm nx Q:=by
 intro zz
 induction zz with
 | nil =>
  intro _ _ h
  exact h.2
 | cons st a ih =>
  intro pm nx h
  intro s P hR hP
  refine wpAny_execs_cons (hS _ _ _ _ h s _ hR fun f fl pm' nx' s1 q hf hR1=>?_)
  cases f with
  | next=>obtain rfl:=hf;exact ih q s1 P hR1 hP
  | brk=>cases q.1
  | cont=>cases q.1
  | ret v=>cases q.1
theorem Hx (ok:C.OkT w sc D) {b:List Stmt} {Q:KF} (a:List Stmt) {pm:PM} {nx:Led} (h:SS (C.fm w sc) a pm nx (fun f pm nx=>f=.next∧GoT C w sc D FV.Is (execs b (C.fm w sc).env) pm nx Q)):GoT C w sc D FV.Is (execs (a++b) (C.fm w sc).env) pm nx Q :=
 JQ (fun _ _ _ _ h=>se (Cx.fmOk ok.ok) (ar (Cx.fmOk ok.ok) 30).1 h) a h
end
end Mine
end
section
namespace Mine
inductive lY (w:World) (f g:Nat→Nat) (codes codes2 base₀:Led):Value→Led→Prop
 | mk (T L:Addr) (ys:List Value) (own codes' codes2':Led) (ps' ps2':Array Value) (u1 u2 u3:Tok):RowsN own ys (five.map (dY (bw f g) (lX f g)))→Tab gh ps'.toList codes'→Tab ey ps2'.toList codes2'→(∀ p∈codes',(p.1≠356∧p.1≠361)∧(p∈codes∨∀ q∈base₀,q.1 < p.1))→(∀ p∈codes2',(p.1≠356∧p.1≠361)∧(p∈codes2∨∀ q∈base₀,q.1 < p.1))→(∀ p∈base₀,p.1≠T∧p.1≠L∧∀ q∈own,p.1≠q.1) →
   lY w f g codes codes2 base₀ (.ref T) ((T,({ cls:=.type "tuple",data:=.seq #[.ref L,.int ((ay f 5).1.length:Int) u1,.int ((ay g 5).1.length:Int) u2,.int (cT (aH f g) (aa f g) ((ay f 5).1.length - 1)) u3] }:Obj))::(L,W.listOf ys.toArray ys.length)::(own++(356,tabObj ps')::(codes'++(361,tabObj ps2')::(codes2'++base₀))))
theorem gZ {f g:Nat→Nat} (hF:∀ c∈five,f c≤4) (hG:∀ c∈five,g c≤4) {c:Nat} (hc:c∈five):aH f g c=(lX f g c:Int)∧aa f g c=(bw f g c:Int)∧bw f g c≤4∧lX f g c≤4:=by
 have:=Hs hF hG (dZ hc)
 rw [iZ hc] at this
 exact this
theorem PFr.at {C:Cx} (h:PFr C) (g:Heap):PFr (C.at g):=⟨h.cl,h.cn,h.cd⟩
theorem rK {w:World} {base₀ codes codes2:Led} {ps ps2:Array Value} {xb xa lh:Addr} {f g:Nat→Nat} {vh:List Value} {nh:Nat} {hs:List Int} (hI:PIn w base₀ codes codes2 ps ps2 xb xa lh f g vh nh hs):fy w (.ref 364) [.ref xb,.ref xa,.ref lh] [] 20 ((356,tabObj ps)::(codes++(361,tabObj ps2)::(codes2++base₀))) (lY w f g codes codes2 base₀):=by
 refine Hw (D:=19) [(Str.ofString "below",Value.ref xb),(Str.ofString "above",Value.ref xa),(Str.ofString "hues",Value.ref lh)] rfl rfl (fun s _=>BindsTo.of_eq rfl) rfl rfl fun C okT lN hcl hcc=>?_
 have hC:=okT.ok
 have hfr:PFr C:=⟨hcl,hcc.1,hcc.2⟩
 refine Hx okT (B__law_painted.take 6) (b:=B__law_painted.drop 6) ?_
 refine Cr (a:=B__law_painted.take 4) (b:=[B__law_painted.getD 4 (.Pass default),B__law_painted.getD 5 (.Pass default)]) ?_
 refine JH hC (by decide) hfr hI fun X c M=>?_
 obtain rfl:=M.f
 obtain rfl:=M.g
 have H:=M.H
 have I:=M.I
 refine Hj hC (by decide) hfr I fun E ys own hcr how=>?_
 refine JM hC (by decide) hfr H I hcr how fun q hT=>⟨rfl,?_⟩
 have hp:=fun x (hx:x∈five)=>gZ hI.below.le hI.above.le hx
 have mR:∀ p∈X.restC c E ys own,p∈(361,tabObj q.1)::(q.2++X.restC c E ys own):=fun p hp=>.tail _ (apR hp)
 have m0:∀ p∈(X.lR,W.listOf c.vr.toArray c.nr)::(X.lV,W.listOf c.vv.toArray c.nv)::(X.dS,c.oD)::(c.sl++X.fix),p∈(361,tabObj q.1)::(q.2++X.restC c E ys own):=fun p hp=>mR p (.tail _ (apR hp))
 intro s P hR hP
 refine wpAny_execs_cons (wpAny_If (isTrue_or (Hv hC (by decide) hfr I (β:=bw X.f X.g) (fun x hx=>(hp x hx).2.1) (fun x hx=>(hp x hx).2.2.1) (m0 _ (.head _)) (m0 _ (.tail _ (.tail _ (.head _)))) (fun p hp=>m0 p (.tail _ (.tail _ (.tail _ (apL hp))))) s _ hR fun b c' pm1 nx1 s1 q1 hb hR1=>?_)))
 obtain ⟨rfl,rfl,hn⟩:=q1
 obtain rfl:=hb
 refine isTrue_or (isTrue_not (isTrue_plain (Cq okT (Q:=fun v pm' nx'=>v=.v (.bool true)∧pm'=put (Str.ofString "changed") (.i (cT (aH X.f X.g) (aa X.f X.g) ((ay X.f 5).1.length - 1))) (put (Str.ofString "told") (.v (.ref E)) X.pm)∧nx'=nx1) ?_ rfl rfl s1 _ hR1 fun h' b a pm' nx' s' hTn okT' q2 hr hR'=>?_)))
 ·intro xs hxs
  obtain ⟨x1,h1⟩:=AllIs.one hxs
  obtain rfl:=h1
  refine okT.useT (d:=10) (by decide) fun os ap=>⟨os++nx1,_,fun _ h=>h,rJ I.row (apR (hn _ (m0 _ (.head _)))) (bT _ 5) (fun z hz=>fY (Nat.le_refl 5) hz),?_⟩
  rintro v nx' ⟨rfl,rfl⟩
  exact ⟨.v (.bool true),nx1,rfl,fun _ h=>h,ap,rfl,rfl,rfl⟩
 ·obtain ⟨rfl,rfl,rfl⟩:=q2
  obtain rfl:=hr
  refine wpAny_truthy_bool (isTrue_or_nil (wpAny_execs_nil ?_))
  have ok':=okT'.ok
  refine iO (Cx.fmOk ok') _ _ _ _ (JN (C:=C.at h') (R:=nx') (ys:=ys) ok' H I (β:=bw X.f X.g) (δ:=lX X.f X.g) (fun x hx=>(hp x hx).2.1) (fun x hx=>(hp x hx).2.2.1) (fun x hx=>(hp x hx).1) (fun x hx=>(hp x hx).2.2.2) ?_ ?_ ?_ ?_ (Q:=FU (lY w X.f X.g codes codes2 base₀)) fun T L zs own2 u1 u2 u3 hz hap=>?_) s' _ hR' fun f fl pm2 nx2 s2 q3 hf hR2=>hP h' f fl pm2 nx2 s2 hTn okT' q3 hf hR2
  ·exact hn _ (m0 _ (.tail _ (.tail _ (.tail _ (apR (.tail _ (.head _)))))))
  ·exact hn _ (m0 _ (.tail _ (.tail _ (.tail _ (apR (.tail _ (.tail _ (.head _))))))))
  ·exact hn _ (mR _ (.head _))
  ·exact hcr.mono fun p hp=>hn _ (mR p (.tail _ (apL hp)))
  ·have hfx:∀ p∈X.fix,p∈X.restC c E ys own:=fun p hp=>.tail _ (apR (.tail _ (.tail _ (.tail _ (apR hp)))))
   have m56:(356,tabObj X.ps)∈X.fix:=.tail _ (.tail _ (.tail _ (.tail _ (.tail _ (.tail _ (.head _))))))
   have mco:∀ p∈X.co++X.base,p∈X.fix:=fun p hp=>.tail _ (.tail _ (.tail _ (.tail _ (.tail _ (.tail _ (.tail _ hp))))))
   have hb0:∀ p∈base₀,p∈X.fix:=fun p hp=>mco p (apR (M.base▸hp))
   refine ⟨(T,({ cls:=.type "tuple",data:=.seq #[.ref L,.int ((ay X.f 5).1.length:Int) u1,.int ((ay X.g 5).1.length:Int) u2,.int (cT (aH X.f X.g) (aa X.f X.g) ((ay X.f 5).1.length - 1)) u3] }:Obj))::(L,W.listOf zs.toArray zs.length)::(own2++(356,tabObj X.ps)::(X.co++(361,tabObj q.1)::(q.2++base₀))),fun p hp=>?_,fun y hy=>?_⟩
   ·rcases cnX hp with rfl | hp
    ·exact .head _
    ·rcases cnX hp with rfl | hp
     ·exact .tail _ (.head _)
     ·refine .tail _ (.tail _ ((apX hp).elim (apL) fun hp=>apR (hn p ?_)))
      rcases cnX hp with rfl | hp
      ·exact mR _ (hfx _ m56)
      ·rcases apX hp with hp | hp
       ·exact mR _ (hfx _ (mco p (apL hp)))
       ·rcases cnX hp with rfl | hp
        ·exact .head _
        ·exact .tail _ ((apX hp).elim (apL) fun hp=>apR (hfx p (hb0 p hp)))
   ·obtain rfl:=hy
    refine .mk T L zs own2 X.co q.2 X.ps q.1 u1 u2 u3 hz M.tab hT.tab (fun p hp=>⟨⟨(M.co p hp).1,H.fx p (mco p (apL hp))⟩,(M.co p hp).2⟩) (fun p hp=>⟨⟨?_,(hT.co p hp).1⟩,?_⟩) fun p hp=>hap p (hn p (mR p (hfx p (hb0 p hp))))
    ·rcases (hT.co p hp).2 with h | h
     ·exact (I.new p h).elim (fun h=>(hI.c2 p (M.co2▸h)).1) fun h=>Nat.ne_of_gt (h _ m56)
     ·exact Nat.ne_of_gt (h _ (hfx _ m56))
    ·rcases (hT.co p hp).2 with h | h
     ·exact (I.new p h).imp (fun h=>M.co2▸h) fun h z hz=>h z (hb0 z hz)
     ·exact .inr fun z hz=>h z (hfx z (hb0 z hz))
end Mine
end
section
namespace Mine
section
variable {C:Cx} {w:World} {sc:Scope} {pm:PM} {nx:Led} {D:Nat}
theorem Cx.Ok.useG (hC:C.Ok w sc D) {G:Heap→Prop} (hG:G C.h₀) {f:Value} {xs:List Value} {kw:List (Str×Value)} {d:Nat} {Q:KV} (hd:d≤D)
  (h:∀ os:Led,(∀ p∈os,∀ q∈nx,p.1≠q.1)→∃ X Post,(∀ p∈X,p∈os++nx)∧lG G w f xs kw d X Post∧∀ v nx',Post v nx'→∃ pv nx2,pv.Is v∧(∀ p∈os++nx2,p∈nx')∧(∀ p∈os,∀ q∈nx2,p.1≠q.1)∧Q pv pm nx2):GoV (C.fm w sc) (call f xs kw) pm nx Q:=by
 obtain ⟨nm,b1,b2,mr,esc⟩:=q8 hC.kind
 intro s P hR hP
 refine Cx.R.open hR fun m os F N ap mk=>?_
 obtain ⟨X,Post,hX,hs,hq⟩:=h os ap
 show wpAny _ (ktrTop C.dp C.un C.gd C.cn sc C.L C.a C.ccd C.cl C.outer) _ _ _ _
 rw [esc]
 refine hs hG hC.B F hC.X (News.of N hX) hC.T (by have:=hC.dp;lia) (by have:=hC.un;lia) fun v nx' h' tk' hp F' N'=>?_
 obtain ⟨pv,nx2,hv,hsub,hap,hQ⟩:=hq v nx' hp
 exact hP pv v pm nx2 _ hQ hv (mk h' tk' nx2 F' (News.of N' hsub) hap)
end
theorem w1 {F:Fm} {pm:PM} {nx:Led} (ok:F.Ok) {a:PV} {E:Addr} {ys:List Value} {ss:List Str} {n:Nat} {Q:KV} (ha:asS a=some (Str.ofString "")) (hm:(E,W.listOf ys.toArray n)∈nx) (hy:StrsAre ys ss) (hs:(ss.map (·.length)).sum≤16777216) (h:Q (.s (Txt.join (Str.ofString "") ss)) pm nx):aI F (.builtin "str.join") [a,.v (.ref E)] pm nx Q:=by
 refine call2 fun x y hx hy' s P hR hP=>?_
 obtain ⟨t,rfl⟩:=aJ ha hx
 obtain rfl:=hy'
 exact Eo (ok.list hR hm) hy (by decide) hs fun t' k=>hP _ _ _ _ _ h ⟨_,rfl⟩ (ok.toks _ hR)
theorem Cs (c:Int):Txt.item (Str.ofString "ahkmp") (c.fmod 5)=one (ae (c.fmod 5).toNat):=iq (Int.fmod_nonneg_of_pos c (by decide)) (Int.fmod_lt_of_pos c (by decide))
theorem Ct (c:Int):Txt.item (Str.ofString "ahkmp") ((c.fdiv 5).fmod 5)=one (ae ((c.fdiv 5).fmod 5).toNat):=iq (Int.fmod_nonneg_of_pos _ (by decide)) (Int.fmod_lt_of_pos _ (by decide))
theorem Hy {F:Fm} {pm:PM} {nx:Led} {b c:Bool} {Q:KV} (h:Q (.v (.bool (b==c))) pm nx):dE F .Is (.v (.bool b)) (.v (.bool c)) pm nx Q:=by
 intro x y hx hy s P hR hP
 obtain rfl:=hx;obtain rfl:=hy
 exact wpAny_is_plain rfl (hP _ _ _ _ _ h (by cases b <;> cases c <;> rfl) hR)
theorem Ew {F:Fm} {pm:PM} {nx:Led} {b c:Bool} {Q:KV} (h:Q (.v (.bool (!(b==c)))) pm nx):dE F .IsNot (.v (.bool b)) (.v (.bool c)) pm nx Q:=by
 intro x y hx hy s P hR hP
 obtain rfl:=hx;obtain rfl:=hy
 exact wpAny_isNot_plain rfl (hP _ _ _ _ _ h (by cases b <;> cases c <;> rfl) hR)
theorem Ex {F:Fm} {pm:PM} {nx:Led} (ok:F.Ok) {a:PV} {x:Str} {Q:KV} (ha:asS a=some x) (h:Q (.s Str.empty) pm nx):fg F .Mult a (.v (.bool false)) pm nx Q:=by
 intro u v hu hv s P hR hP
 obtain ⟨t,rfl⟩:=aJ ha hu
 obtain rfl:=hv
 exact oG (hP _ _ _ _ _ h ⟨_,rfl⟩ (ok.toks _ hR))
section
variable {C:Cx} {w:World} {D:Nat}
noncomputable def FW (l lc:Addr) (z:Str):PM:=[(Str.ofString "script",.v (.ref l)),(Str.ofString "cells",.v (.ref lc)),(Str.ofString "letters",.s z),(Str.ofString "plan",.s z)]
noncomputable def JR:PySem.Expr:=by refine (fun (_:B_law.getD 2 (.Pass default)=.Assign ?a ?y ?b)=>?y) ?hh;case hh=>(conv=>lhs;whnf)
theorem Ey {F:Fm} {pm:PM} {nx:Led} (ok:F.Ok) {l:Addr} {vs:List Value} {ns:List Int} {n:Nat} {Q:KV} (hm:(l,W.listOf vs.toArray n)∈nx) (hi:IntsAre vs ns) (h:Q (.i ns.sum) pm nx):aI F (.builtin "sum") [.v (.ref l)] pm nx Q:=by
 refine dB fun x hx s P hR hP=>?_
 obtain rfl:=hx
 obtain ⟨m,os,Fr',N,ap,_,mk⟩:=ok.opc hR
 refine PyProof.Rows.LSm.sum_ints Fr' N ok.handled (News.isList N (apR hm)) hi fun h' tk' t' F' N'=>?_
 exact hP _ _ _ _ _ h ⟨_,rfl⟩ (mk h' tk' nx F' N' ap)
theorem Cu (hC:C.Ok w S_law D) (hD:12≤D) {cs:List Nat} (hcs:cs.length=10) (h5:∀ c∈cs,c∈five) {l lc:Addr} {vc:List Value} {nc:Nat} {cells:List Int} (hIc:IntsAre vc cells) {nx:Led} (hm:(lc,W.listOf vc.toArray nc)∈nx) {Q:KV}
  (hQ:∀ nx',(∀ p∈nx,p∈nx')→Q (.s (Str.mk cs.toArray)) [(Str.ofString "script",.v (.ref l)),(Str.ofString "cells",.v (.ref lc)),(Str.ofString "letters",.s (Str.mk cs.toArray))] nx'):GoV (C.fm w S_law) (eval JR (C.fm w S_law).env) [(Str.ofString "script",.v (.ref l)),(Str.ofString "cells",.v (.ref lc)),(Str.ofString "letters",.s (Str.mk cs.toArray))] nx Q:=by
 have ok:=Cx.fmOk hC
 refine aN ok (sk rfl PySem.F.slot_str_join PySem.F.type_str_join (cwB ok (bF ok rfl ?_)))
 refine bc ok (Ey ok hm hIc (ri fun t u=>?_))
 refine hC.use (d:=5) (by lia) fun os ap=>⟨os++nx,_,fun _ h=>h,uu hcs h5,?_⟩
 rintro v nx' ⟨rfl,t8,rfl⟩
 refine ⟨.s (Str.mk (f5 cs cells.sum).toArray),nx,⟨t8,rfl⟩,fun _ h=>h,ap,?_⟩
 have hok:=B2 h5 cells.sum
 have hpr:=BU w.params h5 cells.sum
 have hsz:(f5 cs cells.sum).length≤20:=by
  have h1:=pG cells.sum (aQ (Str.mk cs.toArray) cells.sum 11).cps.toList 0
  have h2:=lT (Str.mk cs.toArray) cells.sum 11 (Nat.le_refl _)
  have h3:(Str.mk cs.toArray).length=10:=by show cs.length=10;exact hcs
  have h4:(aQ (Str.mk cs.toArray) cells.sum 11).cps.toList.length=(aQ (Str.mk cs.toArray) cells.sum 11).length:=rfl
  unfold f5
  lia
 generalize f5 cs cells.sum=tf at hok hpr hsz ⊢
 refine bu ok (oy:=none) [] (fun i=>.s (one (tf.getD i 0))) (fun _:Unit=>nx) (fun i ys _=>StrsAre ys ((tf.take i).map fun c=>Str.mk (dF w.params c).toArray)) () (nC ok rfl) trivial (fun i v hv=>?_) (fun i ys _ hi h=>?_) (fun _ _ _ _ p hp=>nomatch hp) ⟨.nil,fun p hp=>hp⟩ (fun i ys _ hi h κ okG Qy Qn hQy _=>?_) (fun ys _ E h _=>?_)
 ·obtain ⟨c,u,hc,rfl⟩:=hv
  have hc:tf[i]?=some c:=by simpa using hc
  exact ⟨u,by rw [List.getD_eq_getElem?_getD,hc];rfl⟩
 ·rw [h.length,List.length_map,List.length_take]
  exact Nat.le_trans (Nat.min_le_right _ _) (Nat.le_trans hsz (by decide))
 ·have hi':i < tf.length:=hi
  have hc:=getD_at hi'
  have hcm:=hok _ (List.mem_of_getElem? hc)
  have htk:tf.take (i + 1)=tf.take i++[tf.getD i 0]:=by rw [List.take_add_one,hc];rfl
  show fS _ _ (PV.s (one (tf.getD i 0))) _ _ _
  generalize tf.getD i 0=c at hcm htk ⊢
  have fin:∀ x pm,x.cps.toList=dF w.params c→Qy (.s x) pm nx:=fun x pm e=>hQy _ _ _ () (fun y ⟨t,hy⟩=>by
   show StrsAre _ ((tf.take (i + 1)).map _)
   rw [hy,htk,List.map_append,List.map_singleton, ← e]
   exact StrsAre.snoc h _ _) (fun p hp=>hp) trivial
  refine ny okG (bc okG (iW fun t=>okG.useR hC (.v (.bool (b1L.contains (c:Int)))) (d:=2) (by lia) (fun os=>wU hcm) (fun _=>rfl) (Hy ?_)))
  cases hb:b1L.contains (c:Int)
  ·refine And.intro (fun _=>?_) nofun
   rcases B3 w.params c with hv | ⟨x,tv,hv⟩
   ·refine bc okG (iW fun t=>okG.useR hC (.s (Txt.lower (one c))) (d:=2) (by lia) (fun os=>Eh hv) (fun t=>⟨t,rfl⟩) (fin _ _ ?_))
    unfold dF;rw [hb,hv];rfl
   ·refine bc okG (iW fun t=>okG.useR hC (.s x) (d:=2) (by lia) (fun os=>Hl hv) (fun t=>⟨t,rfl⟩) (fin _ _ ?_))
    unfold dF;rw [hb,hv];rfl
  ·refine And.intro nofun fun _=>?_
   refine bc okG (iW fun t=>okG.useR hC (.v (.bool (b1L.contains (c:Int)))) (d:=2) (by lia) (fun os=>wU hcm) (fun _=>rfl) (Ew ?_))
   rw [hb]
   refine Ex okG rfl (fin _ _ ?_)
   unfold dF;rw [hb];rfl
 ·have hsum:tf.flatMap (dF w.params)=(tf.map fun c=>Str.mk (dF w.params c).toArray).flatMap fun x=>x.cps.toList:=by rw [List.flatMap_map]
  replace h:StrsAre ys (tf.map fun c=>Str.mk (dF w.params c).toArray):=by
   have h:StrsAre ys ((tf.take tf.length).map fun c=>Str.mk (dF w.params c).toArray):=h
   rwa [List.take_of_length_le (Nat.le_refl _)] at h
  refine w1 ok rfl (.head _) h ?_ ?_
  ·rw [← nV, ← hsum,hpr,hcs]
   exact (aD rfl)
  ·rw [show Txt.join (Str.ofString "") (tf.map fun c=>Str.mk (dF w.params c).toArray)=Str.mk cs.toArray from rG (by rw [lU, ← hsum,hpr])]
   exact hQ _ fun p hp=>.tail _ hp
theorem Cv (hC:C.Ok w S_law D) (hD:12≤D) (hcl:C.cl=cellsFrom (C.L + 1) S_law.names []) {l:Addr} {vs:List Value} {ns:List Int} (hL:C.h₀.IsList l vs.toArray) (hI:IntsAre vs ns) (hn:ns.length≤63) {nx:Led} {Q:KF}
  (hQ:∀ lc vc nc nx',IntsAre vc (cellsOf ns)→(∀ p∈nx,p.1 < lc)→(∀ p∈(lc,W.listOf vc.toArray nc)::nx,p∈nx')→Q .next (FW l lc (Str.mk (lettersOf (cellsOf ns)).toArray)) nx'):SS (C.fm w S_law) (B_law.take 4) (pm0 [(Str.ofString "script",Value.ref l)]) nx Q:=by
 have ok:=Cx.fmOk hC
 have henv:(C.fm w S_law).env=envX C.cn S_law C.L C.a C.ccd (cellsFrom (C.L + 1) S_law.names []):=hcl▸rfl
 refine bc ok (iW fun _=>hC.useG (d:=4) hL (by lia) fun os ap=>⟨os++nx,_,fun _ h=>h,ux hI hn,?_⟩)
 rintro v nx' ⟨lc,vc,nc,rfl,rfl,hlc,hIc⟩
 refine ⟨.v (.ref lc),(lc,W.listOf vc.toArray nc)::nx,rfl,fun p hp=>?_,fun p hp q hq=>?_,?_⟩
 ·rcases apX hp with hp | hp
  ·exact .tail _ (apL hp)
  ·rcases cnX hp with rfl | hp
   ·exact .head _
   ·exact .tail _ (apR hp)
 ·rcases cnX hq with rfl | hq
  ·exact Nat.ne_of_lt (hlc p (apL hp))
  ·exact ap p hp q hq
 have hcl5:vc.length=5:=by rw [hIc.length];exact bf _ _
 refine aN ok (sk rfl PySem.F.slot_str_join PySem.F.type_str_join (cwB ok (bF ok rfl ?_)))
 refine bu ok (oy:=none) [] (fun i=>.i ((cellsOf ns).getD i 0)) (fun _:Unit=>(lc,W.listOf vc.toArray nc)::nx) (fun i ys _=>StrsAre ys (((cellsOf ns).take i).map s8)) () (cP ok (.head _)) trivial (fun i v hv=>cU hIc hv) (fun i ys _ hi h=>?_) (fun _ _ _ _ p hp=>by rw [sgX hp];exact .head _) ⟨.nil,fun p hp=>hp⟩ (fun i ys _ hi h κ okG Qy Qn hQy _=>?_) (fun ys _ E h _=>?_)
 ·rw [h.length,List.length_map,List.length_take]
  exact Nat.le_trans (Nat.min_le_left _ _) (by lia)
 ·refine And.intro (by decide) (dU okG rfl rfl ?_ ?_ (by decide) (Cs _) (And.intro (by decide) (And.intro (by decide) (dU okG rfl rfl ?_ ?_ (by decide) (Ct _) (And.intro (aD rfl) ?_)))))
  ·exact Int.le_trans (by decide) (Int.fmod_nonneg_of_pos _ (by decide))
  ·exact Int.lt_of_lt_of_le (Int.fmod_lt_of_pos _ (by decide)) (by decide)
  ·exact Int.le_trans (by decide) (Int.fmod_nonneg_of_pos _ (by decide))
  ·exact Int.lt_of_lt_of_le (Int.fmod_lt_of_pos _ (by decide)) (by decide)
  ·refine hQy _ _ _ () (fun y ⟨t,hy⟩=>?_) (fun p hp=>hp) trivial
   have hi5:i < (cellsOf ns).length:=hIc.length▸hi
   have e:(cellsOf ns).take (i + 1)=(cellsOf ns).take i++[(cellsOf ns).getD i 0]:=by
    rw [List.take_add_one,List.getElem?_eq_getElem hi5,List.getD_eq_getElem?_getD,List.getElem?_eq_getElem hi5];rfl
   show StrsAre _ (((cellsOf ns).take (i + 1)).map s8)
   rw [hy,e,List.map_append]
   exact StrsAre.snoc h _ _
 ·have hcc:(cellsOf ns).length=5:=bf _ _
  have h10:(lettersOf (cellsOf ns)).length=10:=by rw [mc,hcc]
  replace h:StrsAre ys ((cellsOf ns).map s8):=by
   have h:StrsAre ys (((cellsOf ns).take vc.length).map s8):=h
   rwa [List.take_of_length_le (by lia)] at h
  refine w1 ok rfl (.head _) h ?_ ?_
  ·rw [← nV, ← lU,lr]
   show (lettersOf (cellsOf ns)).length≤_
   rw [h10]
   exact (aD rfl)
  ·rw [lr]
   have h5:=lx (cellsOf ns)
   generalize lettersOf (cellsOf ns)=cs at h10 h5 hQ ⊢
   refine Cu (l:=l) (Q:=fun v pm nx=>fS (C.fm w S_law) (Str.ofString "plan") v pm nx fun pm nx=>SS (C.fm w S_law) [B_law.getD 3 (.Pass default)] pm nx Q) hC hD h10 h5 hIc (.tail _ (.head _)) fun nx' hn=>?_
   refine aq ok (And.intro (fun e=>?_) fun _=>?_)
   ·exact absurd (bne_self_eq_false (Str.mk cs.toArray)) (by rw [show (Str.mk cs.toArray !=Str.mk cs.toArray)=true from e];exact fun h=>nomatch h)
   ·exact hQ lc vc nc nx' hIc (fun p hp=>hlc p (apR hp)) fun p hp=>hn p (.tail _ hp)
end
end Mine
end
section
namespace Mine
noncomputable def lawFor:List Stmt:=by refine (fun (_:B_law.getD 5 (.Pass default)=.For ?a ?b ?y ?c ?d)=>?y) ?hh;case hh=>(conv=>lhs;whnf)
noncomputable def lawIf:List Stmt:=by refine (fun (_:lawFor.getD 1 (.Pass default)=.If ?a ?y ?b ?c)=>?y) ?hh;case hh=>(conv=>lhs;whnf)
noncomputable def i5 (up:List Int) (y:Nat):List Nat:=((List.range 5).filter fun x=>decide (bit (up.getD x 0) y≠0)).map ae
noncomputable def dG (up:List Int) (y j:Nat):List Nat:=((List.range j).filter fun x=>decide (bit (up.getD x 0) y≠0)).map ae
theorem tm (up:List Int) (y j:Nat):dG up y (j + 1)=if bit (up.getD j 0) y≠0 then dG up y j++[ae j] else dG up y j:=by
 unfold dG
 rw [List.range_succ,List.filter_append,List.map_append]
 have e:([j].filter fun x=>decide (bit (up.getD x 0) y≠0))=if bit (up.getD j 0) y≠0 then [j] else []:=by
  show (match decide (bit (up.getD j 0) y≠0) with
   | true=>[j]
   | false=>[])=_
  by_cases h:bit (up.getD j 0) y≠0
  ·rw [decide_eq_true h,if_pos h]
  ·rw [decide_eq_false h,if_neg h]
 rw [e]
 split
 ·rfl
 ·exact List.append_nil _
noncomputable def eW (cells:List Int):List Int:=cells.map fun c=>(c.fdiv 25).fmod 72
theorem uF (cells:List Int):∀ h∈eW cells,0≤h∧h < 72:=by
 intro h hh
 obtain ⟨c,_⟩:=bI hh
 exact ⟨Int.fmod_nonneg_of_pos _ (by decide),Int.fmod_lt_of_pos _ (by decide)⟩
noncomputable def apP (up:List Int) (i j:Nat):Bool:=decide (PySem.Builtin.bitAnd (up.getD i 0) (up.getD j 0)≠up.getD i 0) && decide (PySem.Builtin.bitAnd (up.getD i 0) (up.getD j 0)≠up.getD j 0)
def Bef (i j i' j':Nat):Prop:=(i' < i∧j' < 5)∨(i'=i∧j' < j)
def ApJ (up:List Int) (i j:Nat) (ys:List Value):Prop:=i≤5∧j≤5∧∃ n,IntsAre ys (List.replicate n 1)∧n≤5 * i + j∧(n=0↔∀ i' j',Bef i j i' j'→apP up i' j'=false)
theorem Ez {up:List Int} {i:Nat} {ys:List Value} (hi:i < 5) (h:ApJ up i 5 ys):ApJ up (i + 1) 0 ys:=by
 obtain ⟨_,_,n,hn,hl,he⟩:=h
 refine ⟨hi,Nat.zero_le _,n,hn,hl,he.trans ⟨fun h i' j' hb=>h i' j' ?_,fun h i' j' hb=>h i' j' ?_⟩⟩
 ·rcases hb with ⟨a,b⟩ | ⟨_,b⟩
  ·exact (Nat.lt_or_eq_of_le (Nat.le_of_lt_succ a)).imp (⟨·, b⟩) (⟨·, b⟩)
  ·exact absurd b (Nat.not_lt_zero _)
 ·rcases hb with ⟨a,b⟩ | ⟨a,b⟩
  ·exact .inl ⟨Nat.lt_succ_of_lt a,b⟩
  ·exact .inl ⟨a▸Nat.lt_succ_self _,b⟩
theorem Hz {up:List Int} {i j:Nat} {ys:List Value} {t:Tok} (hj:j < 5) (h:ApJ up i j ys) (hp:apP up i j=true):ApJ up i (j + 1) (ys++[Value.int 1 t]):=by
 obtain ⟨h1,_,n,hn,hl,he⟩:=h
 refine ⟨h1,hj,n + 1,?_,Nat.succ_le_succ hl,⟨nofun,fun h=>?_⟩⟩
 ·rw [List.replicate_succ']
  exact IntsAre.append hn (.cons _ _ .nil)
 ·have:=h i j (.inr ⟨rfl,Nat.lt_succ_self _⟩)
  rw [hp] at this;exact kE this
theorem JS {up:List Int} {i j:Nat} {ys:List Value} (hj:j < 5) (h:ApJ up i j ys) (hp:apP up i j=false):ApJ up i (j + 1) ys:=by
 obtain ⟨h1,_,n,hn,hl,he⟩:=h
 refine ⟨h1,hj,n,hn,Nat.le_succ_of_le hl,he.trans ⟨fun h i' j' hb=>?_,fun h i' j' hb=>h i' j' (hb.imp id fun ⟨a,b⟩=>⟨a,Nat.lt_succ_of_lt b⟩)⟩⟩
 rcases hb with hb | ⟨rfl,b⟩
 ·exact h i' j' (.inl hb)
 ·rcases Nat.lt_or_eq_of_le (Nat.le_of_lt_succ b) with b | rfl
  ·exact h i' j' (.inr ⟨rfl,b⟩)
  ·exact hp
structure w2 (srt lw:Nat→List Nat):Prop where
 perm:∀ c∈five,(srt c).Perm (lw c)
 up:∀ c∈five,(srt c).Pairwise (· ≤ ·)
 len:∀ c∈five,(lw c).length < 64
noncomputable def iP (v:Int):List Nat:=((List.range 5).filter fun x=>decide (bit v x≠0)).map ae
noncomputable def f7 (v:Int) (j:Nat):List Nat:=((List.range j).filter fun x=>decide (bit v x≠0)).map ae
theorem w3 (v:Int) (j:Nat):f7 v (j + 1)=if bit v j≠0 then f7 v j++[ae j] else f7 v j:=by
 unfold f7
 rw [List.range_succ,List.filter_append,List.map_append]
 have e:([j].filter fun x=>decide (bit v x≠0))=if bit v j≠0 then [j] else []:=by
  show (match decide (bit v j≠0) with
   | true=>[j]
   | false=>[])=_
  by_cases h:bit v j≠0
  ·rw [decide_eq_true h,if_pos h]
  ·rw [decide_eq_false h,if_neg h]
 rw [e]
 split
 ·rfl
 ·exact List.append_nil _
theorem uG (v:Int):∀ c∈iP v,c∈five:=by
 intro c hc
 obtain ⟨x,hx⟩:=bI hc
 exact bk (List.mem_range.mp (List.mem_filter.mp hx).1)
theorem yq {cs:List Nat} (hcs:cs.length=10) {i:Nat} (hi:i < 5):Txt.slice (Str.mk cs.toArray) (some (2 * (i:Int))) (some (2 * (i:Int) + 2))=Str.mk #[cs.getD (2 * i) 0,cs.getD (2 * i + 1) 0]:=by
 have h:=eq_of_beq (slice_closes (x:=Str.mk cs.toArray) (i:=2 * (i:Int)) (j:=2 * (i:Int) + 2) ⟨by lia,by lia,by show _≤((cs.length:Nat):Int);lia⟩)
 rw [h]
 show Str.mk ((cs.drop (2 * (i:Int)).toNat).take (2 * (i:Int) + 2 - 2 * (i:Int)).toNat).toArray=_
 rw [show (2 * (i:Int)).toNat=2 * i by lia,show (2 * (i:Int) + 2 - 2 * (i:Int)).toNat=2 by lia]
 have e1:cs.drop (2 * i)=cs.getD (2 * i) 0::cs.getD (2 * i + 1) 0::cs.drop (2 * i + 1 + 1):=by
  rw [List.drop_eq_getElem_cons (by lia:2 * i < cs.length),List.drop_eq_getElem_cons (by lia:2 * i + 1 < cs.length),List.getD_eq_getElem?_getD,List.getD_eq_getElem?_getD,List.getElem?_eq_getElem (by lia),List.getElem?_eq_getElem (by lia)]
  rfl
 rw [e1]
 rfl
end Mine
end
section
namespace Mine
theorem rL (key:Nat→Nat) (v:Nat):∀ {l:List Nat},l.Pairwise (fun x y=>key x≤key y)→l=(l.filter fun x=>decide (key x < v))++(l.filter fun x => !decide (key x < v)):=by
 intro zz
 induction zz with
 | nil =>
  intro _
  exact rfl
 | cons x l ih =>
  intro h
  rw [List.pairwise_cons] at h
  by_cases hx:key x < v
  ·rw [List.filter_cons_of_pos (by simpa using hx),List.filter_cons_of_neg (by simpa using hx),List.cons_append, ← ih h.2]
  ·have h1:(x::l).filter (fun x=>decide (key x < v))=[]:=by
    rw [List.filter_eq_nil_iff]
    intro z hz
    rcases cnX hz with rfl | hz
    ·simpa using hx
    ·have:=h.1 z hz
     simp;lia
   have h2:(x::l).filter (fun x => !decide (key x < v))=x::l:=by
    rw [List.filter_eq_self]
    intro z hz
    rcases cnX hz with rfl | hz
    ·simpa using hx
    ·have:=h.1 z hz
     simp;lia
   rw [h1,h2,List.nil_append]
theorem i6 {l:List Nat} {p q:Nat→Bool}:l.filter p=l.filter q↔∀ x∈l,p x=q x:=by
 refine ⟨fun h x hx=>?_,fun h=>List.filter_congr h⟩
 cases hp:p x <;> cases hq:q x
 ·rfl
 ·have:x∈l.filter p:=h▸List.mem_filter.mpr ⟨hx,hq⟩
  rw [(List.mem_filter.mp this).2] at hp;exact kE hp
 ·have:x∈l.filter q:=h▸List.mem_filter.mpr ⟨hx,hp⟩
  rw [(List.mem_filter.mp this).2] at hq;exact kE hq
 ·rfl
theorem w4 (i v:Nat):gX (0 + (i:Int) * 1000) (1000 * (v:Int))=1000 * (aR i v:Int):=by
 unfold gX aR
 by_cases h:i < v
 ·rw [if_pos h,if_pos (by simp;lia)]
  lia
 ·rw [if_neg h,if_neg (by simp;lia)]
  lia
theorem yr (i:Nat) {a b:Nat} (h:a≤b):aR i a≤aR i b:=by
 unfold aR
 split <;> split <;> lia
section
variable {b d:Nat→Int} {β δ:Nat→Nat} (hb:∀ c∈five,b c=(β c:Int)) (h4:∀ c∈five,β c≤4) (hd:∀ c∈five,d c=(δ c:Int)) (hδ:∀ c∈five,δ c≤4)
include hb h4
theorem HA:(rowAt b 5).Pairwise (fun x y=>β x≤β y):=by
 rw [n0 hb h4 5 (Nat.le_refl _)]
 exact B5 _ _ _
theorem n7 {x:Nat}:x∈rowAt b 5↔x∈five:=by
 refine ⟨fun h=>fY (Nat.le_refl 5) h,fun h=>?_⟩
 rw [n0 hb h4 5 (Nat.le_refl _)]
 unfold byV
 refine List.mem_flatMap.mpr ⟨β x,List.mem_range.mpr (Nat.lt_succ_of_le (h4 x h)),List.mem_filter.mpr ⟨?_,by simp⟩⟩
 rw [List.mem_reverse]
 exact h
include hd
theorem pL (i:Nat) {c:Nat} (hc:c∈five):(rowAt b 5).take (fq d b (0 + (i:Int) * 1000) c)=(rowAt b 5).filter fun x=>decide (aR i (β x) < aR i (δ c)):=by
 have hs:=rL (fun x=>aR i (β x)) (aR i (δ c)) ((HA hb h4).imp fun h=>yr i h)
 have hm:((rowAt b 5).map fun x=>gX (0 + (i:Int) * 1000) (1000 * b x))=(rowAt b 5).map fun x=>1000 * (aR i (β x):Int):=List.map_congr_left fun x hx=>by rw [hb x ((n7 hb h4).mp hx),w4]
 have hk:fq d b (0 + (i:Int) * 1000) c=((rowAt b 5).filter fun x=>decide (aR i (β x) < aR i (δ c))).length:=by
  unfold fq
  rw [hm,hd c hc,w4]
  have h5:((rowAt b 5).map fun x=>1000 * (aR i (β x):Int)).length=5:=by rw [List.length_map,bT]
  have:=Bj (ns:=(rowAt b 5).map fun x=>1000 * (aR i (β x):Int)) (A:=((rowAt b 5).filter fun x=>decide (aR i (β x) < aR i (δ c))).map fun x=>1000 * (aR i (β x):Int)) (B:=((rowAt b 5).filter fun x => !decide (aR i (β x) < aR i (δ c))).map fun x=>1000 * (aR i (β x):Int)) (x:=1000 * (aR i (δ c):Int)) ?_ ?_ ?_
  ·rw [h5,List.length_map] at this
   exact this
  ·rw [← List.map_append, ← hs]
  ·intro a ha
   obtain ⟨x,hx⟩:=bI ha
   have:=of_decide_eq_true (List.mem_filter.mp hx).2
   lia
  ·intro a ha
   obtain ⟨x,hx⟩:=bI ha
   have:=(List.mem_filter.mp hx).2
   simp only [Bool.not_eq_true',decide_eq_false_iff_not] at this
   lia
 rw [hk]
 conv=>lhs;arg 2;rw [hs]
 rw [List.take_append_of_le_length (Nat.le_refl _),List.take_length]
include hδ
theorem me {c:Nat} (hc:c∈five):(rowAt b 5).take (dC d b c)=(rowAt b 5).filter fun x=>decide (β x < δ c):=by
 rw [pK hb h4 (hd c hc) (hδ c hc),n0 hb h4 5 (Nat.le_refl _),bq (hδ c hc),bG,List.filter_append]
 have h1:((byV β (List.range (δ c)) (five.take 5).reverse).filter fun x=>decide (β x < δ c))=byV β (List.range (δ c)) (five.take 5).reverse:=by
  rw [List.filter_eq_self]
  intro x hx
  exact decide_eq_true (nO hx)
 have h2:((byV β ([δ c]++(List.range (4 - δ c)).map fun k=>δ c + 1 + k) (five.take 5).reverse).filter fun x=>decide (β x < δ c))=[]:=by
  rw [List.filter_eq_nil_iff]
  intro x hx
  rw [bG] at hx
  rcases apX hx with hx | hx
  ·have:=lH hx;simp;lia
  ·have:=kZ hx;simp;lia
 rw [h1,h2,List.append_nil]
 rfl
theorem tq (i:Nat):dX b (fq d b (0 + (i:Int) * 1000))=dX b (dC d b)↔∀ c∈five,∀ x∈five,decide (aR i (β x) < aR i (δ c))=decide (β x < δ c):=by
 unfold dX
 rw [List.map_inj_left]
 refine ⟨fun h c hc x hx=>?_,fun h c hc=>?_⟩
 ·have:=h c hc
  rw [pL hb h4 hd i hc,me hb h4 hd hδ hc,i6] at this
  exact this x ((n7 hb h4).mpr hx)
 ·rw [pL hb h4 hd i hc,me hb h4 hd hδ hc,i6]
  exact fun x hx=>h c hc x ((n7 hb h4).mp hx)
end
end Mine
end
section
namespace Mine
theorem g8 {P:Nat→Prop}:(∀ c∈five,P c)↔∀ z < 5,P (ae z) :=
 ⟨fun h z hz=>h _ (bk hz),fun h c hc=>iZ hc▸h _ (dZ hc)⟩
theorem Cw {z:Nat} (hz:z < 5):five.idxOf (ae z)=z:=((nS (bk hz) hz).mpr rfl).symm
theorem gb {p:Nat→Bool}:bb p=false↔∀ x < 5,p x=false:=by
 unfold bb
 rw [List.any_eq_false]
 exact ⟨fun h x hx=>by simpa using h x (List.mem_range.mpr hx),fun h x hx=>by simpa using h x (List.mem_range.mp hx)⟩
theorem all5_true {p:Nat→Bool}:dq p=true↔∀ x < 5,p x=true:=by
 unfold dq
 rw [List.all_eq_true]
 exact ⟨fun h x hx=>h x (List.mem_range.mpr hx),fun h x hx=>h x (List.mem_range.mp hx)⟩
section
variable {F G:Nat→Nat} (hF:∀ c∈five,F c≤4) (hG:∀ c∈five,G c≤4)
include hF hG
theorem HB (D B:Nat→Nat) (hD:∀ z < 5,D z=lX F G (ae z)) (hB:∀ z < 5,B z=bw F G (ae z)):∀ m,cT (aH F G) (aa F G) m=((List.range m).countP fun cut=>bb fun y=>bb fun x=>aM (fun z=>aR cut (D z)) (fun z=>aR cut (B z)) x y !=aM D B x y:Nat):=by
 intro zz
 induction zz with
 | zero =>
  exact rfl
 | succ m ih =>
  rw [cT,ih,List.range_succ,List.countP_append,List.countP_singleton]
  have h:=tq (b:=aa F G) (d:=aH F G) (β:=bw F G) (δ:=lX F G) (fun c hc=>(gZ hF hG hc).2.1) (fun c hc=>(gZ hF hG hc).2.2.1) (fun c hc=>(gZ hF hG hc).1) (fun c hc=>(gZ hF hG hc).2.2.2) m
  have hp:(bb fun y=>bb fun x=>aM (fun z=>aR m (D z)) (fun z=>aR m (B z)) x y !=aM D B x y)=false↔∀ c∈five,∀ x∈five,decide (aR m (bw F G x) < aR m (lX F G c))=decide (bw F G x < lX F G c):=by
   rw [gb,g8]
   refine forall_congr' fun y=>forall_congr' fun hy=>?_
   rw [gb,g8]
   refine forall_congr' fun x=>forall_congr' fun hx=>?_
   have e1:aM (fun z=>aR m (D z)) (fun z=>aR m (B z)) x y=decide (aR m (B x) < aR m (D y)):=rfl
   have e2:aM D B x y=decide (B x < D y):=rfl
   rw [e1,e2,hB x hx,hD y hy,bne_eq_false_iff_eq]
  by_cases hc:dX (aa F G) (fq (aH F G) (aa F G) (0 + (m:Int) * 1000))=dX (aa F G) (dC (aH F G) (aa F G))
  ·rw [if_pos hc,hp.mpr (h.mp hc)]
   simp
  ·rw [if_neg hc]
   have:(bb fun y=>bb fun x=>aM (fun z=>aR m (D z)) (fun z=>aR m (B z)) x y !=aM D B x y)=true:=by
    cases e:(bb fun y=>bb fun x=>aM (fun z=>aR m (D z)) (fun z=>aR m (B z)) x y !=aM D B x y)
    ·exact absurd (h.mpr (hp.mp e)) hc
    ·rfl
   rw [this]
   simp
end
theorem tu {p:Nat→Bool} {z:Nat} (hz:z < 5) (h:p z=false):cnt p≤4:=by
 have:=pJ (p:=p) (q:=fun _=>true) (z:=z) (l:=List.range 5) (fun _ _ _=>rfl) (List.mem_range.mpr hz) h rfl
 rw [List.countP_true,List.length_range] at this
 unfold cnt
 lia
noncomputable def fz (l:List Nat):List Nat:=five.filter fun x=>l.contains x
theorem n8 {l:List Nat} (nd:l.Nodup) (h:∀ x∈l,x∈five):(fz l).Perm l:=by
 unfold fz
 refine (List.perm_ext_iff_of_nodup (five_nodup.filter _) nd).mpr fun x=>?_
 rw [List.mem_filter]
 simp only [List.contains_iff_mem]
 exact ⟨fun h=>h.2,fun hx=>⟨h x hx,hx⟩⟩
theorem Cy (l:List Nat):(fz l).Pairwise (· ≤ ·):=five_up5.filter _
theorem w5 {ps:List (Nat×Nat)} (G:Good ps) (c:Nat):(lows ps c).Nodup:=by
 unfold lows
 rw [List.Nodup,List.pairwise_map]
 refine (G.nd.filter _).imp_of_mem fun {a b} ha hb hab e=>hab ?_
 have h1:=(List.mem_filter.mp ha).2
 have h2:=(List.mem_filter.mp hb).2
 rw [beq_iff_eq] at h1 h2
 exact Prod.ext e (h1.trans h2.symm)
theorem tw {ps:List (Nat×Nat)} (G:Good ps) (c:Nat):(highs ps c).Nodup:=by
 unfold highs
 rw [List.Nodup,List.pairwise_map]
 refine (G.nd.filter _).imp_of_mem fun {a b} ha hb hab e=>hab ?_
 have h1:=(List.mem_filter.mp ha).2
 have h2:=(List.mem_filter.mp hb).2
 rw [beq_iff_eq] at h1 h2
 exact Prod.ext (h1.trans h2.symm) e
theorem w6 {l:List Nat} (nd:l.Nodup) (h:∀ x∈l,x∈five):l.length=cnt fun x=>l.contains (ae x):=by
 rw [← (n8 nd h).length_eq]
 unfold fz cnt
 rw [cg,List.filter_map,List.length_map,List.countP_eq_length_filter]
 rfl
noncomputable def a4 (cs:List Nat) (k x y:Nat):Bool:=decide ((ae x,ae y)∈bQ cs k)
theorem EA (cs:List Nat) (k:Nat):oH (a4 cs k)=true :=
 B6 (fun x _ y _ z _ h1 h2=>decide_eq_true ((rC cs k).trans _ _ _ (of_decide_eq_true h1) (of_decide_eq_true h2))) fun x _=>decide_eq_false ((rC cs k).irr _)
section
variable {cs:List Nat} (hcs:cs.length=10) (h5:∀ c∈cs,c∈five) {k:Nat} (hk:k≤5)
noncomputable def f1 (cs:List Nat) (k c:Nat):Nat:=(lows (bQ cs k) c).length
noncomputable def f2 (cs:List Nat) (k c:Nat):Nat:=(highs (bQ cs k) c).length
include hcs h5 hk
theorem w7 (y:Nat):f1 cs k (ae y)=aj (a4 cs k) y:=by
 have G:=ip hcs h5 k hk
 unfold f1 aj
 rw [w6 (w5 G _) (fun x hx=>G.lows x hx)]
 refine cc fun x _=>?_
 unfold a4
 rw [Bool.eq_iff_iff,List.contains_iff_mem,mem_lows,decide_eq_true_iff]
theorem w8 (x:Nat):f2 cs k (ae x)=ao (a4 cs k) x:=by
 have G:=ip hcs h5 k hk
 unfold f2 ao
 rw [w6 (tw G _) (fun x hx=>G.highs x hx)]
 refine cc fun y _=>?_
 unfold a4
 rw [Bool.eq_iff_iff,List.contains_iff_mem,mem_highs,decide_eq_true_iff]
theorem w9:∀ c∈five,f1 cs k c≤4:=by
 rw [g8]
 intro z hz
 rw [w7 hcs h5 hk]
 exact tu hz (decide_eq_false ((rC cs k).irr _))
theorem xc:∀ c∈five,f2 cs k c≤4:=by
 rw [g8]
 intro z hz
 rw [w8 hcs h5 hk]
 exact tu hz (decide_eq_false ((rC cs k).irr _))
end
theorem Cz:((List.range 32).all fun a=>(List.range 32).all fun b=>(decide (PySem.Builtin.bitAnd (a:Int) (b:Int)≠(a:Int))==bb fun y=>decide (bit (a:Int) y≠0) && !decide (bit (b:Int) y≠0)) && (decide (PySem.Builtin.bitAnd (a:Int) (b:Int)≠(b:Int))==bb fun y=>decide (bit (b:Int) y≠0) && !decide (bit (a:Int) y≠0)))=true:=by decide +kernel
theorem EB {a b:Int} (ha:0≤a∧a < 32) (hb:0≤b∧b < 32):decide (PySem.Builtin.bitAnd a b≠a)=(bb fun y=>decide (bit a y≠0) && !decide (bit b y≠0))∧decide (PySem.Builtin.bitAnd a b≠b)=(bb fun y=>decide (bit b y≠0) && !decide (bit a y≠0)):=by
 obtain ⟨a',rfl⟩:∃ a':Nat,a=a':=⟨a.toNat,by lia⟩
 obtain ⟨b',rfl⟩:∃ b':Nat,b=b':=⟨b.toNat,by lia⟩
 have:=List.all_eq_true.mp (List.all_eq_true.mp Cz a' (List.mem_range.mpr (by lia))) b' (List.mem_range.mpr (by lia))
 rw [Bool.and_eq_true,beq_iff_eq,beq_iff_eq] at this
 exact this
section
variable {cs:List Nat} (hcs:cs.length=10) (h5:∀ c∈cs,c∈five) {k:Nat} (hk:k≤5)
include hcs h5 hk
theorem uH (i:Nat):0≤(aw cs k).getD i 0∧(aw cs k).getD i 0 < 32:=by
 by_cases hi:i < 5
 ·exact (nU hcs h5 k hk).low i hi
 ·rw [List.getD_eq_getElem?_getD,List.getElem?_eq_none (by rw [ew];lia)]
  exact ⟨Int.le_refl _,by decide⟩
theorem ix {x y:Nat} (hx:x < 5) (hy:y < 5):decide (bit ((aw cs k).getD x 0) y≠0)=a4 cs k x y:=decide_eq_decide.mpr (x6 hcs h5 k hk x hx y hy)
theorem JT {i j:Nat} (hi:i < 5) (hj:j < 5):apP (aw cs k) i j=((bb fun y=>a4 cs k i y && !a4 cs k j y) && (bb fun y=>a4 cs k j y && !a4 cs k i y)):=by
 obtain ⟨e1,e2⟩:=EB (uH hcs h5 hk i) (uH hcs h5 hk j)
 unfold apP
 rw [e1,e2]
 congr 1
 ·exact any_range fun y hy=>by rw [ix hcs h5 hk hi hy,ix hcs h5 hk hj hy]
 ·exact any_range fun y hy=>by rw [ix hcs h5 hk hi hy,ix hcs h5 hk hj hy]
theorem tx:(∀ i < 5,∀ j < 5,apP (aw cs k) i j=false)↔f6 (a4 cs k)=false:=by
 unfold f6
 rw [gb]
 refine forall_congr' fun i=>forall_congr' fun hi=>?_
 rw [gb]
 exact forall_congr' fun j=>forall_congr' fun hj=>by rw [JT hcs h5 hk hi hj]
theorem CA {y:Nat} (hy:y < 5):i5 (aw cs k) y=fz (lows (bQ cs k) (ae y)):=by
 unfold i5 fz
 rw [cg,List.filter_map]
 refine congrArg _ (List.filter_congr fun x hx=>?_)
 rw [ix hcs h5 hk (List.mem_range.mp hx) hy]
 unfold a4
 show _=(lows (bQ cs k) (ae y)).contains (ae x)
 rw [Bool.eq_iff_iff,List.contains_iff_mem,mem_lows,decide_eq_true_iff]
theorem JU {x:Nat} (hx:x < 5):iP ((aw cs k).getD x 0)=fz (highs (bQ cs k) (ae x)):=by
 unfold iP fz
 rw [cg,List.filter_map]
 refine congrArg _ (List.filter_congr fun y hy=>?_)
 rw [ix hcs h5 hk hx (List.mem_range.mp hy)]
 unfold a4
 show _=(highs (bQ cs k) (ae x)).contains (ae y)
 rw [Bool.eq_iff_iff,List.contains_iff_mem,mem_highs,decide_eq_true_iff]
theorem CB:five.map (fun c=>fz (lows (bQ cs k) c))=(List.range 5).map (i5 (aw cs k)):=by
 rw [cg,List.map_map]
 exact List.map_congr_left fun y hy=>(CA hcs h5 hk (List.mem_range.mp hy)).symm
theorem EC:five.map (fun c=>fz (highs (bQ cs k) c))=(aw cs k).map iP:=by
 have hl:=ew cs k
 apply List.ext_getElem
 ·rw [List.length_map,List.length_map,hl];rfl
 ·intro i h1 h2
  have hi:i < 5:=by rw [List.length_map] at h1;exact h1
  rw [List.getElem_map,List.getElem_map]
  have e1:five[i]'(by rw [List.length_map] at h1;exact h1)=ae i:=by
   unfold ae
   rw [List.getD_eq_getElem?_getD,List.getElem?_eq_getElem (show i < five.length from hi)];rfl
  have e2:(aw cs k)[i]'(by lia)=(aw cs k).getD i 0:=by
   rw [List.getD_eq_getElem?_getD,List.getElem?_eq_getElem (by lia)];rfl
  rw [e1,e2,JU hcs h5 hk hi]
theorem yt:w2 (fun c=>fz (lows (bQ cs k) c)) (lows (bQ cs k)):=by
 have G:=ip hcs h5 k hk
 refine ⟨fun c _=>n8 (w5 G c) (fun x hx=>G.lows x hx),fun c _=>Cy _,fun c hc=>?_⟩
 have:=w9 hcs h5 hk c hc
 unfold f1 at this
 lia
theorem uI:w2 (fun c=>fz (highs (bQ cs k) c)) (highs (bQ cs k)):=by
 have G:=ip hcs h5 k hk
 refine ⟨fun c _=>n8 (tw G c) (fun x hx=>G.highs x hx),fun c _=>Cy _,fun c hc=>?_⟩
 have:=xc hcs h5 hk c hc
 unfold f2 at this
 lia
theorem uJ:(ay (f1 cs k) 5).1.length=cX (aj (a4 cs k)):=by
 rw [ik (w9 hcs h5 hk),te]
 congr 1
 funext z
 exact w7 hcs h5 hk z
theorem HC:(ay (f2 cs k) 5).1.length=cX (ao (a4 cs k)):=by
 rw [ik (xc hcs h5 hk),te]
 congr 1
 funext z
 exact w8 hcs h5 hk z
theorem CC {z:Nat} (hz:z < 5):cH (aj (a4 cs k)) (ao (a4 cs k)) z=lX (f1 cs k) (f2 cs k) (ae z):=by
 unfold lX
 rw [Cw hz,show (fun z=>f1 cs k (ae z))=aj (a4 cs k) from funext fun y=>w7 hcs h5 hk y,show (fun z=>f2 cs k (ae z))=ao (a4 cs k) from funext fun y=>w8 hcs h5 hk y]
theorem pM {z:Nat} (hz:z < 5):aA (aj (a4 cs k)) (ao (a4 cs k)) z=bw (f1 cs k) (f2 cs k) (ae z):=by
 unfold bw
 rw [Cw hz,show (fun z=>f1 cs k (ae z))=aj (a4 cs k) from funext fun y=>w7 hcs h5 hk y,show (fun z=>f2 cs k (ae z))=ao (a4 cs k) from funext fun y=>w8 hcs h5 hk y]
theorem yu:five.map (dY (bw (f1 cs k) (f2 cs k)) (lX (f1 cs k) (f2 cs k)))=(List.range 5).map (i5 (aw cs k))↔(dq fun x=>dq fun y=>aM (cH (aj (a4 cs k)) (ao (a4 cs k))) (aA (aj (a4 cs k)) (ao (a4 cs k))) x y==a4 cs k x y)=true:=by
 rw [cg,List.map_map,List.map_inj_left]
 have:(dq fun x=>dq fun y=>aM (cH (aj (a4 cs k)) (ao (a4 cs k))) (aA (aj (a4 cs k)) (ao (a4 cs k))) x y==a4 cs k x y)=true↔∀ y < 5,∀ x < 5,aM (cH (aj (a4 cs k)) (ao (a4 cs k))) (aA (aj (a4 cs k)) (ao (a4 cs k))) x y=a4 cs k x y:=by
  rw [all5_true]
  refine ⟨fun h y hy x hx=>?_,fun h x hx=>?_⟩
  ·have:=all5_true.mp (h x hx) y hy
   exact eq_of_beq this
  ·rw [all5_true]
   exact fun y hy=>beq_iff_eq.mpr (h y hy x hx)
 rw [this]
 refine forall_congr' fun y=>?_
 rw [List.mem_range]
 refine forall_congr' fun hy=>?_
 rw [CA hcs h5 hk hy]
 show dY _ _ (ae y)=_↔_
 unfold dY fz
 rw [i6,g8]
 refine forall_congr' fun x=>forall_congr' fun hx=>?_
 unfold aM
 rw [pM hcs h5 hk hx,CC hcs h5 hk hy]
 have e:(lows (bQ cs k) (ae y)).contains (ae x)=a4 cs k x y:=by
  unfold a4
  rw [Bool.eq_iff_iff,List.contains_iff_mem,mem_lows,decide_eq_true_iff]
 rw [e]
theorem yv:(ay (f1 cs k) 5).1.length≠0 ∧
  (five.map (dY (bw (f1 cs k) (f2 cs k)) (lX (f1 cs k) (f2 cs k)))=(List.range 5).map (i5 (aw cs k))↔∀ i < 5,∀ j < 5,apP (aw cs k) i j=false) ∧
  ((∀ i < 5,∀ j < 5,apP (aw cs k) i j=false)→(ay (f1 cs k) 5).1.length=(ay (f2 cs k) 5).1.length∧cT (aH (f1 cs k) (f2 cs k)) (aa (f1 cs k) (f2 cs k)) ((ay (f1 cs k) 5).1.length - 1)=((ay (f1 cs k) 5).1.length:Int) - 1):=by
 have h:=EA cs k
 unfold oH chk at h
 rw [Bool.and_eq_true,Bool.and_eq_true,beq_iff_eq] at h
 obtain ⟨⟨h1,h2⟩,h3⟩:=h
 have hn:(ay (f1 cs k) 5).1.length≠0:=by
  rw [uJ hcs h5 hk]
  simpa using h2
 refine ⟨hn,?_,fun ha=>?_⟩
 ·rw [yu hcs h5 hk,tx hcs h5 hk,h1]
  simp
 ·rw [tx hcs h5 hk] at ha
  rw [ha,Bool.false_or,Bool.and_eq_true,beq_iff_eq,beq_iff_eq] at h3
  refine ⟨by rw [uJ hcs h5 hk,HC hcs h5 hk];exact h3.1,?_⟩
  rw [HB (w9 hcs h5 hk) (xc hcs h5 hk) (cH (aj (a4 cs k)) (ao (a4 cs k))) (aA (aj (a4 cs k)) (ao (a4 cs k))) (fun z hz=>CC hcs h5 hk hz) (fun z hz=>pM hcs h5 hk hz)]
  have h4:=h3.2
  unfold dk at h4
  rw [← uJ hcs h5 hk] at h4
  rw [h4]
  lia
end
end Mine
end
section
namespace Mine
structure LFr (C:Cx):Prop where
 cl:C.cl=cellsFrom (C.L + 1) S_law.names []
section
variable {F:Fm} {pm:PM} {nx:Led} {D:Nat}
theorem pN (ok:F.Ok) {a:PV} {n:Int} {Q:KV} (ha:asI a=some n) (h:∀ r t u v,(∀ p∈nx,p.1 < r)→Q (.v (.ref r)) pm ((r,oz 0 n t u v)::nx)):aI F (.type "range") [a] pm nx Q:=by
 refine dB fun x hx s P hR hP=>?_
 obtain ⟨t,rfl⟩:=au ha hx
 refine call_range_1 ?_
 have al:=ok.alloc (o:=oz 0 n s.toks t (s.toks + 1)) rfl hR
 exact hP _ _ _ _ _ (h _ _ _ _ al.2) rfl (ok.toks _ al.1)
theorem HD (ok:F.Ok) (hC:F.C.Ok F.w F.sc D) {a b:Addr} {xs ys:List Value} {rs ts:List (List Nat)} {n k:Nat} {Q:KV} (ha:(a,W.listOf xs.toArray n)∈nx) (hb:(b,W.listOf ys.toArray k)∈nx) (hi:RowsN nx xs rs) (hj:RowsN nx ys ts) (h1:∀ r∈rs,∀ c∈r,c < 1114112) (h2:∀ r∈ts,∀ c∈r,c < 1114112) (hd:9≤D) (h:Q (.v (.bool (decide (rs=ts)))) pm nx):dE F .Eq (.v (.ref a)) (.v (.ref b)) pm nx Q:=by
 intro x y hx hy s P hR hP
 obtain rfl:=hx;obtain rfl:=hy
 have hu:F.A.units + 64 < cLine:=by rw [ok.hA];have:=hC.un;show F.C.un + 64 < _;lia
 exact DX (ok.list hR ha) (ok.list hR hb) (hi.get fun a o m=>ok.mem hR m) (hj.get fun a o m=>ok.mem hR m) h1 h2 hu (hP _ _ _ _ _ h rfl hR)
theorem CD (ok:F.Ok) (hC:F.C.Ok F.w F.sc D) {a b:Addr} {xs ys:List Value} {ns ms:List Int} {n k:Nat} {Q:KV} (ha:(a,W.listOf xs.toArray n)∈nx) (hb:(b,W.listOf ys.toArray k)∈nx) (hi:IntsAre xs ns) (hj:IntsAre ys ms) (hd:9≤D) (h:Q (.v (.bool (decide (ns=ms)))) pm nx):dE F .Eq (.v (.ref a)) (.v (.ref b)) pm nx Q:=by
 intro x y hx hy s P hR hP
 obtain rfl:=hx;obtain rfl:=hy
 have hu:F.A.units + 64 < cLine:=by rw [ok.hA];have:=hC.un;show F.C.un + 64 < _;lia
 exact eq_intsK (ok.list hR ha) hi (ok.list hR hb) hj hu (hP _ _ _ _ _ h rfl hR)
theorem HE {b c:Bool} {Q:KV} (h:Q (.v (.bool (b !=c))) pm nx):dE F .NotEq (.v (.bool b)) (.v (.bool c)) pm nx Q:=by
 intro x y hx hy s P hR hP
 obtain rfl:=hx;obtain rfl:=hy
 exact ne_bool (hP _ _ _ _ _ h rfl hR)
theorem rM (ok:F.Ok) {c:PySem.Expr} {a:List Stmt} {pos:Pos} {Q:KF} (h:(WW F 30).2 c pm nx fun b pm' nx'=>b=false∧pm'=pm∧∀ p∈nx,p∈nx') (hQ:Q .next pm nx):GoF F (exec (.If c a [] pos) F.env) pm nx Q:=by
 refine fun s P hR hP=>wpAny_If ((ar ok 30).2 _ _ _ _ h s _ hR fun b c pm' nx' s1 q hb hR1=>?_)
 obtain rfl:=hb
 obtain ⟨rfl,rfl,hn⟩:=q
 exact wpAny_execs_nil (hP .next .next _ _ s1 hQ rfl (ok.led hR1 hn))
end
noncomputable abbrev pmK (lc xb xa:Addr) (z:Str) (i:Nat):PM:=[(Str.ofString "letters",.s z),(Str.ofString "plan",.s z),(Str.ofString "cells",.v (.ref lc)),(Str.ofString "below",.v (.ref xb)),(Str.ofString "above",.v (.ref xa)),(Str.ofString "k",.i i)]
noncomputable abbrev pmU (lc xb xa:Addr) (z:Str) (i:Nat) (lu:Addr):PM:=[(Str.ofString "letters",.s z),(Str.ofString "plan",.s z),(Str.ofString "cells",.v (.ref lc)),(Str.ofString "below",.v (.ref xb)),(Str.ofString "above",.v (.ref xa)),(Str.ofString "k",.i i),(Str.ofString "up",.v (.ref lu))]
noncomputable abbrev pmD (lc xb xa:Addr) (z:Str) (i:Nat) (lu ld:Addr):PM:=[(Str.ofString "letters",.s z),(Str.ofString "plan",.s z),(Str.ofString "cells",.v (.ref lc)),(Str.ofString "below",.v (.ref xb)),(Str.ofString "above",.v (.ref xa)),(Str.ofString "k",.i i),(Str.ofString "up",.v (.ref lu)),(Str.ofString "due",.v (.ref ld))]
noncomputable abbrev pmT (lc xb xa:Addr) (z:Str) (i:Nat) (lu ld lt:Addr) (nl nh:Nat) (chg:Int):PM:=[(Str.ofString "letters",.s z),(Str.ofString "plan",.s z),(Str.ofString "cells",.v (.ref lc)),(Str.ofString "below",.v (.ref xb)),(Str.ofString "above",.v (.ref xa)),(Str.ofString "k",.i i),(Str.ofString "up",.v (.ref lu)),(Str.ofString "due",.v (.ref ld)),(Str.ofString "told",.v (.ref lt)),(Str.ofString "lows",.i nl),(Str.ofString "highs",.i nh),(Str.ofString "changed",.i chg)]
noncomputable abbrev pmA (lc xb xa:Addr) (z:Str) (i:Nat) (lu ld lt:Addr) (nl nh:Nat) (chg:Int) (la:Addr):PM:=[(Str.ofString "letters",.s z),(Str.ofString "plan",.s z),(Str.ofString "cells",.v (.ref lc)),(Str.ofString "below",.v (.ref xb)),(Str.ofString "above",.v (.ref xa)),(Str.ofString "k",.i i),(Str.ofString "up",.v (.ref lu)),(Str.ofString "due",.v (.ref ld)),(Str.ofString "told",.v (.ref lt)),(Str.ofString "lows",.i nl),(Str.ofString "highs",.i nh),(Str.ofString "changed",.i chg),(Str.ofString "apart",.v (.ref la))]
noncomputable def l_1:Stmt:=by refine (fun (_:lawIf.getD 1 (.Pass default)=?y)=>?y) ?h;case h=>(conv=>lhs;whnf)
noncomputable def l_2:Stmt:=by refine (fun (_:lawIf.getD 2 (.Pass default)=?y)=>?y) ?h;case h=>(conv=>lhs;whnf)
noncomputable def l_3:Stmt:=by refine (fun (_:lawIf.getD 3 (.Pass default)=?y)=>?y) ?h;case h=>(conv=>lhs;whnf)
noncomputable def l_4:Stmt:=by refine (fun (_:lawIf.getD 4 (.Pass default)=?y)=>?y) ?h;case h=>(conv=>lhs;whnf)
noncomputable def l_5:Stmt:=by refine (fun (_:lawIf.getD 5 (.Pass default)=?y)=>?y) ?h;case h=>(conv=>lhs;whnf)
noncomputable def l_6:Stmt:=by refine (fun (_:lawIf.getD 6 (.Pass default)=?y)=>?y) ?h;case h=>(conv=>lhs;whnf)
section
variable {C:Cx} {w:World} {D:Nat}
theorem LFr.env (h:LFr C):(C.fm w S_law).env=envX C.cn S_law C.L C.a C.ccd (cellsFrom (C.L + 1) S_law.names []):=h.cl▸rfl
theorem LFr.below (h:LFr C):(C.fm w S_law).cell (Str.ofString "below")=some (C.L + 1):=(congrArg (List.lookup _) h.cl).trans rfl
theorem LFr.above (h:LFr C):(C.fm w S_law).cell (Str.ofString "above")=some (C.L + 1 + 1):=(congrArg (List.lookup _) h.cl).trans rfl
theorem LFr.up (h:LFr C):(C.fm w S_law).cell (Str.ofString "up")=some (C.L + 1 + 1 + 1):=(congrArg (List.lookup _) h.cl).trans rfl
theorem CE (up:List Int) (y j:Nat):(dG up y j).length≤j:=by
 unfold dG
 rw [List.length_map]
 exact Nat.le_trans (List.length_filter_le ..) (Nat.le_of_eq List.length_range)
theorem HF (hC:C.Ok w S_law D) (hf:LFr C) {nx:Led} {lc xb xa:Addr} {z:Str} {k:Nat} {lu:Addr} {vu:List Value} {nu:Nat} {up:List Int} (hU:(lu,W.listOf vu.toArray nu)∈nx) (hvu:IntsAre vu up) (hup:up.length=5) (hb:∀ k,0≤up.getD k 0∧up.getD k 0 < 32) {Q:KF}
  (hQ:∀ E ys own,RowsN own ys ((List.range 5).map (i5 up))→(∀ p∈own,∀ q∈nx,q.1≠p.1)→(∀ q∈own++nx,q.1≠E)→Q .next (pmD lc xb xa z k lu E) ((E,W.listOf ys.toArray ys.length)::(own++nx))):GoF (C.fm w S_law) (exec l_1 (C.fm w S_law).env) (pmU lc xb xa z k lu) nx Q:=by
 have ok:=Cx.fmOk hC
 have hvl:vu.length=5:=by rw [hvu.length];exact hup
 refine kO ok (by rw [hf.env];rfl) ?_
 refine cO rfl (fun r2 t2 u2 v2 hr2=>?_) hC
 refine bu ok (oy:=some (Str.ofString "one")) [(Str.ofString "up",.v (.ref lu))] (fun i=>.i i) (fun own:Led=>own++nx) (fun i ys own=>RowsN own ys ((List.range i).map (i5 up))∧∀ p∈own,∀ q∈nx,q.1≠p.1) [] (fi ok (n:=5) (.head _) rfl rfl) ⟨⟨rfl,⟨_,fun _=>rfl,hf.up⟩,rfl,rfl⟩,trivial⟩ (fun i v ⟨t,e⟩=>⟨t,by rw [e,Int.zero_add]⟩) (fun i ys own hi h=>?_) (fun _ _ _ _ p hp=>nomatch hp) ⟨⟨.nil,fun p hp=>nomatch hp⟩,fun p hp=>.tail _ hp⟩ (fun i ys own hi h κ okG Qy Qn hQy _=>?_) (fun ys own E h hE=>hQ E ys own h.1 h.2 hE)
 ·rw [RowsN.len h.1,List.length_map,List.length_range];lia
 ·have mU:(lu,W.listOf vu.toArray nu)∈own++nx:=apR hU
  refine bF okG (by rw [show ((C.fm w S_law).cfk _ _ _ κ).env=compEnvC _ _ κ.Cc (C.fm w S_law).env from rfl,hf.env];rfl) ?_
  refine pN okG rfl fun r3 t3 u3 v3 hr3=>?_
  refine bu okG (oy:=none) [(Str.ofString "up",.v (.ref lu)),(Str.ofString "one",.i i)] (fun j=>.i j) (fun _:Unit=>own++nx) (fun j zs _=>StrsAre zs ((dG up i j).map one)) () (fi okG (n:=5) (.head _) rfl rfl) ?_ (fun i v ⟨t,e⟩=>⟨t,by rw [e,Int.zero_add]⟩) (fun j zs _ hj h=>?_) (fun _ _ _ _ p hp=>nomatch hp) ⟨.nil,fun p hp=>.tail _ hp⟩ (fun j zs _ hj hz κ okH Qz Qm hQz hQm=>?_) (fun zs _ E2 hz hE2=>?_)
  ·exact ⟨⟨rfl,⟨_,fun _=>rfl,rfl⟩,rfl,rfl⟩,⟨rfl,⟨_,fun _=>rfl,rfl⟩,rfl,rfl⟩,trivial⟩
  ·rw [h.length,List.length_map];exact Nat.le_trans (CE up i j) (by lia)
  ·have hj5:j < 5:=hj
   refine aG okH (.i (up.getD j 0)) mU rfl (Int.natCast_nonneg _) (by rw [hvl];exact hj5) (by rw [hvl];decide) (fX hvu j (hup▸hj5)) ?_
   refine And.intro (Int.natCast_nonneg _) ?_
   refine And.intro (fun k2=>?_) (fun k2=>?_)
   ·refine dU okH rfl rfl (Int.le_trans (by decide) (Int.natCast_nonneg j)) (Int.lt_of_lt_of_le (Int.ofNat_lt.mpr hj5) (by decide)) (by decide) (iq (Int.natCast_nonneg j) (Int.ofNat_lt.mpr hj5)) ?_
    refine hQz _ _ _ () (fun y ⟨t,hy⟩=>?_) (fun p hp=>hp) trivial
    show StrsAre _ ((dG up i (j + 1)).map one)
    rw [tm,if_pos (show bit (up.getD j 0) i≠0 from bne_iff_ne.mp k2),List.map_append,hy]
    exact StrsAre.snoc hz _ _
   ·refine hQm _ _ () ?_ (fun p hp=>hp) trivial
    show StrsAre _ ((dG up i (j + 1)).map one)
    rw [tm,if_neg fun e=>e (show bit (up.getD j 0) i=0 from by simpa [bit] using k2)]
    exact hz
  ·refine hQy _ _ _ ((E2,W.listOf zs.toArray zs.length)::own) (fun y hy=>⟨?_,fun p hp q hq=>?_⟩) (fun p hp=>hp) trivial
   ·obtain rfl:=hy
    rw [List.range_succ,List.map_append]
    exact (h.1.mono fun p hp=>.tail _ hp).snoc (.head _) hz
   ·rcases cnX hp with rfl | hp
    ·exact hE2 q (apR hq)
    ·exact h.2 p hp q hq
theorem GoT.go {sc:Scope} {pm:PM} {nx:Led} (h0:C.outer=[]) {α β:Type} {r:β→α→Prop} {t:Sem α} {Q:β→PM→Led→Prop} (h:GoT C w sc D r t pm nx Q):Go (C.fm w sc) r t pm nx Q:=by
 intro s P hR hP
 refine h s P hR fun h' b a pm' nx' s' hT _ q hr hR'=>hP b a pm' nx' s' q hr ?_
 rw [h0] at hT
 obtain ⟨m,cm,os,F,N,Y,ap,ft,e⟩:=hR'
 exact ⟨m,cm,os,(tg (m:=m) (news:=[]) hT).1 F,(tg (m:=m) hT).2 N,Y,ap,ft,e⟩
theorem TabFor.mono {base base':Led} {x:Addr} {f:Nat→Nat} (h:TabFor w base x f) (hs:∀ p∈base,p∈base'):TabFor w base' x f :=
 ⟨by obtain ⟨d,l,t,h1,h2⟩:=h.ex;exact ⟨d,l,t,hs _ h1,hs _ h2⟩,h.le,fun news' c t hc hn=>h.get news' c t hc fun p hp=>hn p (hs p hp)⟩
structure n9 (nx rest codes codes2:Led) (ps ps2:Array Value):Prop where
 t1:Tab gh ps.toList codes
 t2:Tab ey ps2.toList codes2
 sub:∀ p∈(356,tabObj ps)::(codes++(361,tabObj ps2)::(codes2++rest)),p∈nx
 b:∀ p∈rest,p.1≠356∧p.1≠361
 c1:∀ p∈codes,p.1≠356∧p.1≠361
 c2:∀ p∈codes2,p.1≠356∧p.1≠361
theorem CF (okT:C.OkT w S_law D) (h0:C.outer=[]) (hD:20≤D) (hf:LFr C) {nx rest codes codes2:Led} {ps ps2:Array Value} {lc xb xa lu ld:Addr} {z:Str} {k:Nat} {vc:List Value} {nc:Nat} {cells:List Int} {f1 f2:Nat→Nat}
  (K:n9 nx rest codes codes2 ps ps2) (TB:TabFor w rest xb f1) (TA:TabFor w rest xa f2) (hm:(lc,W.listOf vc.toArray nc)∈rest) (hvc:IntsAre vc cells) (h5:cells.length=5) {Q:KF}
  (hQ:∀ Lt ys own codes' codes2' ps' ps2' nx',RowsN own ys (five.map (dY (bw f1 f2) (lX f1 f2)))→n9 nx' rest codes' codes2' ps' ps2'→(∀ p∈codes'++codes2',p∈codes++codes2∨∀ q∈rest,q.1 < p.1)→(∀ p∈(Lt,W.listOf ys.toArray ys.length)::own,p∈nx')→Q .next (pmT lc xb xa z k lu ld Lt (ay f1 5).1.length (ay f2 5).1.length (cT (aH f1 f2) (aa f1 f2) ((ay f1 5).1.length - 1))) nx') :
  GoF (C.fm w S_law) (exec l_2 (C.fm w S_law).env) (pmD lc xb xa z k lu ld) nx Q:=by
 have hC:=okT.ok
 have ok:=Cx.fmOk hC
 have hvl:vc.length=5:=by rw [hvc.length];exact h5
 have hlh:(eW cells).length=5:=by unfold eW;rw [List.length_map];exact h5
 have hrest:∀ p∈rest,p∈nx:=fun p hp=>K.sub p (.tail _ (apR (.tail _ (apR hp))))
 have m356:(356,tabObj ps)∈nx:=K.sub _ (.head _)
 have m361:(361,tabObj ps2)∈nx:=K.sub _ (.tail _ (apR (.head _)))
 refine iU hC (xs:=[Str.ofString "told",Str.ofString "lows",Str.ofString "highs",Str.ofString "changed"]) rfl ?_
 refine bc ok ?_
 refine bF ok (by rw [hf.env];rfl) ?_
 refine bu ok (oy:=none) [] (fun i=>.i (cells.getD i 0)) (fun _:Unit=>nx) (fun i ys _=>IntsAre ys ((eW cells).take i)) () (cP ok (hrest _ hm)) trivial (fun i v hv=>cU hvc hv) (fun i ys _ hi h=>?_) (fun _ _ _ _ p hp=>by rw [sgX hp];exact hrest _ hm) ⟨.nil,fun p hp=>hp⟩ (fun i ys _ hi h κ okG Qy Qn hQy _=>?_) (fun ys _ E h hE=>?_)
 ·rw [h.length,List.length_take];exact Nat.le_trans (Nat.min_le_left _ _) (by lia)
 ·have hi5:i < cells.length:=by lia
  refine And.intro (by decide) (And.intro (by decide) (hQy _ _ _ () (fun y ⟨t,hy⟩=>?_) (fun p hp=>hp) trivial))
  show IntsAre _ ((eW cells).take (i + 1))
  have hnx:(eW cells).take (i + 1)=(eW cells).take i++[((cells.getD i 0).fdiv 25).fmod 72]:=by
   unfold eW
   rw [← List.map_take, ← List.map_take,List.take_add_one,List.getElem?_eq_getElem hi5,List.getD_eq_getElem?_getD,List.getElem?_eq_getElem hi5,List.map_append]
   rfl
  rw [hnx,hy]
  exact IntsAre.append h (.cons _ _ .nil)
 ·replace h:IntsAre ys (eW cells):=by
   have h:IntsAre ys ((eW cells).take vc.length):=h
   rwa [hvl,List.take_of_length_le (Nat.le_of_eq hlh)] at h
  refine iX fun _ _ _=>GoT.go h0 (okT.useT (d:=20) hD fun os ap=>⟨_,_,?_,rK (base₀:=(E,W.listOf ys.toArray ys.length)::(os++rest)) (vh:=ys) (nh:=ys.length) ⟨K.t1,K.t2,?_,K.c1,K.c2,TB.mono ?_,TA.mono ?_,.head _,h,hlh,uF cells⟩,?_⟩)
  ·intro p hp
   have up:∀ p∈nx,p∈os++(E,W.listOf ys.toArray ys.length)::nx:=fun p hp=>apR (.tail _ hp)
   rcases cnX hp with rfl | hp
   ·exact up _ m356
   rcases apX hp with hp | hp
   ·exact up _ (K.sub p (.tail _ (apL hp)))
   rcases cnX hp with rfl | hp
   ·exact up _ m361
   rcases apX hp with hp | hp
   ·exact up _ (K.sub p (.tail _ (apR (.tail _ (apL hp)))))
   rcases cnX hp with rfl | hp
   ·exact apR (.head _)
   ·exact (apX hp).elim (apL) fun hp=>up p (hrest p hp)
  ·intro p hp
   rcases cnX hp with rfl | hp
   ·exact ⟨Ne.symm (hE _ m356),Ne.symm (hE _ m361)⟩
   ·exact (apX hp).elim (fun hp=>⟨ap p hp _ (.tail _ m356),ap p hp _ (.tail _ m361)⟩) (K.b p)
  ·exact fun p hp=>.tail _ (apR hp)
  ·exact fun p hp=>.tail _ (apR hp)
  ·rintro v nx' ⟨T,L,ys2,own,codes',codes2',ps',ps2',u1,u2,u3,hr,s1,s2,d1,d2,hap⟩
   have hlow:∀ {q:Addr×Obj} {cs:Led},(q∈cs∨∀ r∈(E,W.listOf ys.toArray ys.length)::(os++rest),r.1 < q.1)→(∀ r∈cs,r∈nx)→∀ p∈os,p.1≠q.1:=fun h hc p hp=>h.elim (fun h=>ap p hp _ (.tail _ (hc _ h))) fun h=>Nat.ne_of_lt (h p (.tail _ (apL hp)))
   refine ⟨.v (.ref T),(T,({ cls:=.type "tuple",data:=.seq #[.ref L,.int ((ay f1 5).1.length:Int) u1,.int ((ay f2 5).1.length:Int) u2,.int (cT (aH f1 f2) (aa f1 f2) ((ay f1 5).1.length - 1)) u3] }:Obj))::(L,W.listOf ys2.toArray ys2.length)::(own++(356,tabObj ps')::(codes'++(361,tabObj ps2')::(codes2'++rest))),rfl,?_,?_,?_⟩
   ·intro p hp
    rcases apX hp with hp | hp
    ·exact .tail _ (.tail _ (apR (.tail _ (apR (.tail _ (apR (.tail _ (apL hp))))))))
    rcases cnX hp with rfl | hp
    ·exact .head _
    rcases cnX hp with rfl | hp
    ·exact .tail _ (.head _)
    refine .tail _ (.tail _ ?_)
    rcases apX hp with hp | hp
    ·exact apL hp
    refine apR ?_
    rcases cnX hp with rfl | hp
    ·exact .head _
    refine .tail _ ?_
    rcases apX hp with hp | hp
    ·exact apL hp
    refine apR ?_
    rcases cnX hp with rfl | hp
    ·exact .head _
    refine .tail _ ?_
    rcases apX hp with hp | hp
    ·exact apL hp
    ·exact apR (.tail _ (apR hp))
   ·intro p hp q hq
    have hpa:=hap p (.tail _ (apL hp))
    rcases cnX hq with rfl | hq
    ·exact hpa.1
    rcases cnX hq with rfl | hq
    ·exact hpa.2.1
    rcases apX hq with hq | hq
    ·exact hpa.2.2 q hq
    rcases cnX hq with rfl | hq
    ·exact ap p hp (356,tabObj ps) (.tail _ m356)
    rcases apX hq with hq | hq
    ·exact hlow (d1 q hq).2 (fun r hr=>K.sub r (.tail _ (apL hr))) p hp
    rcases cnX hq with rfl | hq
    ·exact ap p hp (361,tabObj ps2) (.tail _ m361)
    rcases apX hq with hq | hq
    ·exact hlow (d2 q hq).2 (fun r hr=>K.sub r (.tail _ (apR (.tail _ (apL hr))))) p hp
    ·exact ap p hp q (.tail _ (hrest q hq))
   ·have fresh:∀ {q:Addr×Obj},(∀ r∈(E,W.listOf ys.toArray ys.length)::(os++rest),r.1 < q.1)→∀ r∈rest,r.1 < q.1:=fun h r hr=>h r (.tail _ (apR hr))
    refine ⟨T,[.v (.ref L),.i ((ay f1 5).1.length:Int),.i ((ay f2 5).1.length:Int),.i (cT (aH f1 f2) (aa f1 f2) ((ay f1 5).1.length - 1))],_,_,rfl,.head _,.cons rfl (.cons ⟨_,rfl⟩ (.cons ⟨_,rfl⟩ (.cons ⟨_,rfl⟩ .nil))),rfl,?_⟩
    refine hQ L ys2 own codes' codes2' ps' ps2' _ hr ⟨s1,s2,fun p hp=>.tail _ (.tail _ (apR hp)),K.b,fun p hp=>(d1 p hp).1,fun p hp=>(d2 p hp).1⟩ (fun p hp=>?_) fun p hp=>?_
    ·exact (apX hp).elim (fun hp=>(d1 p hp).2.imp (apL) fresh) fun hp=>(d2 p hp).2.imp (apR) fresh
    ·rcases cnX hp with rfl | hp
     ·exact .tail _ (.head _)
     ·exact .tail _ (.tail _ (apL hp))
end
end Mine
end
section
namespace Mine
section
variable {C:Cx} {w:World} {D:Nat}
theorem CG (hC:C.Ok w S_law D) (hf:LFr C) {nx:Led} {lc xb xa:Addr} {z:Str} {k:Nat} {lu ld lt:Addr} {nl nh:Nat} {chg:Int} {vu:List Value} {nu:Nat} {up:List Int} (hU:(lu,W.listOf vu.toArray nu)∈nx) (hvu:IntsAre vu up) (hup:up.length=5) {Q:KF}
  (hQ:∀ E ys n,IntsAre ys (List.replicate n 1)→(n=0↔∀ i < 5,∀ j < 5,apP up i j=false)→Q .next (pmA lc xb xa z k lu ld lt nl nh chg E) ((E,W.listOf ys.toArray ys.length)::nx)):GoF (C.fm w S_law) (exec l_3 (C.fm w S_law).env) (pmT lc xb xa z k lu ld lt nl nh chg) nx Q:=by
 have ok:=Cx.fmOk hC
 have hvl:vu.length=5:=by rw [hvu.length];exact hup
 have need:∀ p∈[(lu,W.listOf vu.toArray nu)],p∈nx:=fun p hp=>by rw [sgX hp];exact hU
 refine kO ok (by rw [hf.env];rfl) ?_
 refine nH ok (oy:=none) [(Str.ofString "up",.v (.ref lu))] (fun i=>.i (up.getD i 0)) (fun j=>.i (up.getD j 0)) (fun _:Unit=>nx) (fun i j ys _=>ApJ up i j ys) () (cP ok hU) (n2:=vu.length) (It2:=fun i v=>vu[i]?=some v) (need2:=[(lu,W.listOf vu.toArray nu)]) ⟨⟨rfl,⟨_,fun _=>rfl,hf.up⟩,rfl,rfl⟩,trivial⟩ (fun i v hv=>cU hvu hv) (fun i v hv=>cU hvu hv) (fun i j ys _ hi hj h=>?_) (fun _ _ _ _ _=>⟨need,need⟩) ⟨⟨by decide,by decide,0,.nil,by decide,fun _ i' j' h=>by unfold Bef at h;lia,fun _=>rfl⟩,fun p hp=>hp⟩ (fun i ys _ hi h=>?_) (fun i ys _ hi h κ okG Qs hQs=>?_) (fun i hi j ys _ hj hJ κ okG Qy Qn hQy hQn=>?_) (fun ys _ E hJ hE=>?_)
 ·obtain ⟨h1,h2,n,hn,hl,_⟩:=h
  have:=hn.length
  rw [List.length_replicate] at this
  lia
 ·rw [hvl] at hi h;exact Ez hi h
 ·exact hQs _ _ _ (cP okG hU) ⟨rfl,trivial⟩ fun p hp=>hp
 ·rw [hvl] at hi hj
  have no:∀ pm,apP up i j=false→Sub [(Str.ofString "one",.i (up.getD i 0))] pm→Qn pm nx:=fun pm e hs=>hQn _ _ () (JS hj hJ e) (fun p hp=>hp) hs
  refine And.intro (fun k1=>And.intro (fun k2=>And.intro (fun _=>?_) nofun) fun k2=>And.intro nofun fun _=>no _ ?_ ⟨rfl,trivial⟩) fun k1=>And.intro nofun fun _=>no _ ?_ ⟨rfl,trivial⟩
  ·refine hQy _ _ _ () (fun y ⟨t,hy⟩=>hy▸Hz hj hJ ?_) (fun p hp=>hp) ⟨rfl,trivial⟩
   unfold apP
   rw [decide_eq_true (bne_iff_ne.mp k1),decide_eq_true (bne_iff_ne.mp k2)];rfl
  ·unfold apP
   rw [Bool.and_eq_false_iff]
   exact .inr (decide_eq_false fun h=>h (by simpa using k2))
  ·unfold apP
   rw [Bool.and_eq_false_iff]
   exact .inl (decide_eq_false fun h=>h (by simpa using k1))
 ·obtain ⟨_,_,n,hn,hl,he⟩:=hJ
  rw [hvl] at he
  refine hQ E ys n hn (he.trans ⟨fun h i hi j hj=>h i j (.inl ⟨hi,hj⟩),fun h i j hb=>?_⟩)
  unfold Bef at hb
  exact h i (by lia) j (by lia)
def GetsAs (w:World) (news:Led) (x:Addr) (nm:Nat→Nat) (lw:Nat→List Nat):Prop :=
 ∀ (news':Led) (c:Nat) (t:Tok),c∈five→(∀ p∈news,p∈news')→ah w (.ref 256) [.ref x,.str (one (nm c)) t] [] 5 news' (fun v nx=>∃ (D:Addr) (ys:List Value),v=.ref D∧nx=(D,W.listOf ys.toArray ys.length)::news'∧(∀ p∈news',p.1≠D)∧StrsAre ys ((lw c).map one))
theorem xd {F:Fm} (ok:F.Ok) (hC:F.C.Ok F.w F.sc D) (hD:5≤D) {pm:PM} {nx news:Led} {x:Addr} {nm:Nat→Nat} {lw:Nat→List Nat} {c:Nat} {t:Tok} {Q:KV} (hget:GetsAs F.w news x nm lw) (hs:∀ p∈news,p∈nx) (hc:c∈five)
  (hQ:∀ E zs,(∀ p∈nx,p.1≠E)→StrsAre zs ((lw c).map one)→Q (.v (.ref E)) pm ((E,W.listOf zs.toArray zs.length)::nx)):GoV F (call (.ref 256) [.ref x,.str (one (nm c)) t]) pm nx Q:=by
 refine ok.use hC (d:=5) hD fun os ap=>⟨_,_,fun _ h=>h,hget (os++nx) _ t hc fun p hp=>apR (hs p hp),?_⟩
 rintro v nx' ⟨E,zs,rfl,rfl,hE,hz⟩
 refine ⟨.v (.ref E),(E,W.listOf zs.toArray zs.length)::nx,rfl,fun p hp=>?_,fun p hp q hq=>?_,hQ E zs (fun p hp=>hE p (apR hp)) hz⟩
 ·rcases apX hp with hp | hp
  ·exact .tail _ (apL hp)
  ·rcases cnX hp with rfl | hp
   ·exact .head _
   ·exact .tail _ (apR hp)
 ·rcases cnX hq with rfl | hq
  ·exact hE p (apL hp)
  ·exact ap p hp q hq
theorem HG (hC:C.Ok w S_law D) (hD:9≤D) (hf:LFr C) {nx:Led} {lc xb xa db lb:Addr} {tb:Tok} {z:Str} {k:Nat} {lu ld lt la:Addr} {n nl nh:Nat} {chg:Int} {ysT ysD ysA:List Value} {nT nD nA:Nat} {rT rD:List (List Nat)} {lw srt:Nat→List Nat}
  (hx:(xb,instObj 317 db)∈nx) (hd:(db,bx w lb tb)∈nx) (hget:GetsAs w nx xb upC lw) (hsrt:w2 srt lw) (hT:(lt,W.listOf ysT.toArray nT)∈nx) (hDu:(ld,W.listOf ysD.toArray nD)∈nx) (hA:(la,W.listOf ysA.toArray nA)∈nx) (hrT:RowsN nx ysT rT) (hrD:RowsN nx ysD rD) (hiA:IntsAre ysA (List.replicate n 1))
  (e1:five.map srt=rD) (e2:nl≠0) (e3:rT=rD↔n=0) (o1:∀ r∈rT,∀ c∈r,c < 1114112) (o2:∀ r∈rD,∀ c∈r,c < 1114112) {Q:KF} (hQ:Q .next (pmA lc xb xa z k lu ld lt nl nh chg la) nx):GoF (C.fm w S_law) (exec l_4 (C.fm w S_law).env) (pmA lc xb xa z k lu ld lt nl nh chg la) nx Q:=by
 have ok:=Cx.fmOk hC
 refine rM ok ?_ hQ
 refine bF ok (by rw [hf.env];rfl) ?_
 refine bu ok (oy:=none) [(Str.ofString "below",.v (.ref xb))] (fun i=>.s (one (five.getD i 0))) (fun own:Led=>own++nx) (fun i ys own=>RowsN own ys ((five.take i).map srt)) [] (dN ok) ⟨⟨rfl,⟨_,fun _=>rfl,hf.below⟩,rfl,rfl⟩,trivial⟩ (fun i v hv=>dM hv) (fun i ys own hi h=>?_) (fun _ _ _ _ p hp=>nomatch hp) ⟨.nil,fun p hp=>hp⟩ (fun i ys own hi h κ okG Qy Qn hQy _=>?_) (fun ys own E h hE=>?_)
 ·rw [RowsN.len h,List.length_map,List.length_take];exact Nat.le_trans (Nat.min_le_right _ _) (aD rfl)
 ·obtain ⟨hc,hc5⟩:=dj hi
  have mI:∀ p∈nx,p∈own++nx:=fun p hp=>apR hp
  refine aN okG (gP okG (mI _ hx) (mI _ hd) (cwF okG ?_))
  refine aN okG (sk rfl PySem.F.slot_str_upper PySem.F.type_str_upper (GH (nL okG rfl (aD rfl) (upper_one hc5) ?_)))
  refine ri fun _ t=>xd okG hC (by lia) hget mI hc5 fun E zs hE hz=>?_
  refine n6 okG (.head _) hz (by rw [hz.length,List.length_map];exact hsrt.len _ hc5) (hsrt.perm _ hc5) (hsrt.up _ hc5) fun L vs e hvs hL=>?_
  refine hQy _ _ _ ((L,W.listOf vs.toArray e)::own) (fun y hy=>?_) (fun p hp=>?_) trivial
  ·obtain rfl:=hy
   rw [ba hc,List.map_append]
   exact (RowsN.mono h fun p hp=>.tail _ hp).snoc (.head _) hvs
  ·exact (cnX hp).elim (fun e=>e▸.head _) fun h=>.tail _ (.tail _ h)
 ·have hrows:RowsN own ys rD:=e1▸h
  have mN:∀ p∈nx,p∈(E,W.listOf ys.toArray ys.length)::(own++nx):=fun p hp=>.tail _ (apR hp)
  refine uh ok hC (.head _) (mN _ hDu) (hrows.mono fun p hp=>.tail _ (apL hp)) (hrD.mono mN) o2 o2 hD ?_
  rw [decide_eq_true rfl]
  refine And.intro nofun fun _=>?_
  refine And.intro (fun h0=>?_) fun _=>?_
  ·exact absurd (eq_of_beq h0) (by lia)
  refine HD ok hC (mN _ hT) (mN _ hDu) (hrT.mono mN) (hrD.mono mN) o1 o2 hD ?_
  refine bj ok (Nat.zero_le _) fun L xs hxs hL=>?_
  cases hxs
  refine CD ok hC (.tail _ (mN _ hA)) (.head _) hiA .nil hD ?_
  refine HE ?_
  have hd9:decide (List.replicate n (1:Int)=[])=decide (rT=rD):=decide_eq_decide.mpr ⟨fun h=>e3.mpr (by simpa using congrArg List.length h),fun h=>by rw [e3.mp h];rfl⟩
  rw [hd9,bne_self_eq_false]
  exact And.intro nofun fun _=>⟨rfl,rfl,fun p hp=>.tail _ (mN p hp)⟩
theorem ED (v:Int) (j:Nat):(f7 v j).length≤j:=by
 unfold f7
 rw [List.length_map]
 exact Nat.le_trans (List.length_filter_le ..) (Nat.le_of_eq List.length_range)
theorem HH (hC:C.Ok w S_law D) (hD:9≤D) (hf:LFr C) {nx:Led} {lc xb xa da la₀:Addr} {ta:Tok} {z:Str} {k:Nat} {lu ld lt la:Addr} {nl nh:Nat} {chg:Int} {vu:List Value} {nu:Nat} {up:List Int} {lw srt:Nat→List Nat}
  (hx:(xa,instObj 317 da)∈nx) (hd:(da,bx w la₀ ta)∈nx) (hget:GetsAs w nx xa id lw) (hsrt:w2 srt lw) (hU:(lu,W.listOf vu.toArray nu)∈nx) (hvu:IntsAre vu up) (hup:up.length=5) (hb:∀ k,0≤up.getD k 0∧up.getD k 0 < 32) (e1:five.map srt=up.map iP) {Q:KF} (hQ:Q .next (pmA lc xb xa z k lu ld lt nl nh chg la) nx):GoF (C.fm w S_law) (exec l_5 (C.fm w S_law).env) (pmA lc xb xa z k lu ld lt nl nh chg la) nx Q:=by
 have ok:=Cx.fmOk hC
 have hvl:vu.length=5:=by rw [hvu.length];exact hup
 refine rM ok ?_ hQ
 refine bF ok (by rw [hf.env];rfl) ?_
 refine bu ok (oy:=none) [(Str.ofString "above",.v (.ref xa))] (fun i=>.s (one (five.getD i 0))) (fun own:Led=>own++nx) (fun i ys own=>RowsN own ys ((five.take i).map srt)) [] (dN ok) ⟨⟨rfl,⟨_,fun _=>rfl,hf.above⟩,rfl,rfl⟩,trivial⟩ (fun i v hv=>dM hv) (fun i ys own hi h=>?_) (fun _ _ _ _ p hp=>nomatch hp) ⟨.nil,fun p hp=>hp⟩ (fun i ys own hi h κ okG Qy Qn hQy _=>?_) (fun ys own E h hE=>?_)
 ·rw [RowsN.len h,List.length_map,List.length_take];exact Nat.le_trans (Nat.min_le_right _ _) (aD rfl)
 ·obtain ⟨hc,hc5⟩:=dj hi
  have mI:∀ p∈nx,p∈own++nx:=fun p hp=>apR hp
  refine aN okG (gP okG (mI _ hx) (mI _ hd) (cwF okG ?_))
  refine ri fun _ t=>xd (nm:=id) (c:=five.getD i 0) okG hC (by lia) hget mI hc5 fun E zs hE hz=>?_
  refine n6 okG (.head _) hz (by rw [hz.length,List.length_map];exact hsrt.len _ hc5) (hsrt.perm _ hc5) (hsrt.up _ hc5) fun L vs e hvs hL=>?_
  refine hQy _ _ _ ((L,W.listOf vs.toArray e)::own) (fun y hy=>?_) (fun p hp=>?_) trivial
  ·obtain rfl:=hy
   rw [ba hc,List.map_append]
   exact (RowsN.mono h fun p hp=>.tail _ hp).snoc (.head _) hvs
  ·exact (cnX hp).elim (fun e=>e▸.head _) fun h=>.tail _ (.tail _ h)
 ·have hrows:RowsN own ys (up.map iP):=e1▸h
  have mN:∀ p∈nx,p∈(E,W.listOf ys.toArray ys.length)::(own++nx):=fun p hp=>.tail _ (apR hp)
  generalize hR:(E,W.listOf ys.toArray ys.length)::(own++nx)=R at mN
  have mE:(E,W.listOf ys.toArray ys.length)∈R:=by rw [← hR];exact .head _
  have mO:∀ p∈own,p∈R:=fun p hp=>by rw [← hR];exact .tail _ (apL hp)
  have need:∀ (own:Led),∀ p∈[(lu,W.listOf vu.toArray nu)],p∈own++R:=fun own p hp=>by rw [sgX hp];exact apR (mN _ hU)
  refine bF ok (by rw [hf.env];rfl) ?_
  refine bu ok (oy:=some (Str.ofString "one")) [] (fun i=>.i (up.getD i 0)) (fun own:Led=>own++R) (fun i ys own=>RowsN own ys ((up.take i).map iP)) [] (cP ok (mN _ hU)) trivial (fun i v hv=>cU hvu hv) (fun i ys own hi h=>?_) (fun _ _ own _=>need own) ⟨.nil,fun p hp=>hp⟩ (fun i zs own2 hi h2 κ okG Qy Qn hQy _=>?_) (fun zs own2 E2 h2 hE2=>?_)
  ·rw [RowsN.len h,List.length_map,List.length_take];lia
  ·refine bF okG (by rw [show ((C.fm w S_law).cfk _ _ _ κ).env=compEnvC _ _ κ.Cc (C.fm w S_law).env from rfl,hf.env];rfl) ?_
   refine pN okG rfl fun r3 t3 u3 v3 hr3=>?_
   refine bu okG (oy:=none) [(Str.ofString "one",.i (up.getD i 0))] (fun j=>.i j) (fun _:Unit=>own2++R) (fun j zs _=>StrsAre zs ((f7 (up.getD i 0) j).map one)) () (fi okG (n:=5) (.head _) rfl rfl) ⟨⟨rfl,⟨_,fun _=>rfl,rfl⟩,rfl,rfl⟩,trivial⟩ (fun i v ⟨t,e⟩=>⟨t,by rw [e,Int.zero_add]⟩) (fun j zs _ hj h=>?_) (fun _ _ _ _ p hp=>nomatch hp) ⟨.nil,fun p hp=>.tail _ hp⟩ (fun j ws _ hj hz κ okH Qz Qm hQz hQm=>?_) (fun ws _ E3 hz hE3=>?_)
   ·rw [h.length,List.length_map];exact Nat.le_trans (ED _ j) (by lia)
   ·have hj5:j < 5:=hj
    refine And.intro (Int.natCast_nonneg _) ?_
    refine And.intro (fun k2=>?_) (fun k2=>?_)
    ·refine dU okH rfl rfl (Int.le_trans (by decide) (Int.natCast_nonneg j)) (Int.lt_of_lt_of_le (Int.ofNat_lt.mpr hj5) (by decide)) (by decide) (iq (Int.natCast_nonneg j) (Int.ofNat_lt.mpr hj5)) ?_
     refine hQz _ _ _ () (fun y ⟨t,hy⟩=>?_) (fun p hp=>hp) trivial
     show StrsAre _ ((f7 (up.getD i 0) (j + 1)).map one)
     rw [w3,if_pos (show bit (up.getD i 0) j≠0 from bne_iff_ne.mp k2),List.map_append,hy]
     exact StrsAre.snoc hz _ _
    ·refine hQm _ _ () ?_ (fun p hp=>hp) trivial
     show StrsAre _ ((f7 (up.getD i 0) (j + 1)).map one)
     rw [w3,if_neg fun e=>e (show bit (up.getD i 0) j=0 from by simpa [bit] using k2)]
     exact hz
   ·refine hQy _ _ _ ((E3,W.listOf ws.toArray ws.length)::own2) (fun y hy=>?_) (fun p hp=>hp) trivial
    obtain rfl:=hy
    have hi5:i < up.length:=by lia
    rw [show up.take (i + 1)=up.take i++[up.getD i 0] by rw [List.take_add_one,List.getElem?_eq_getElem hi5,List.getD_eq_getElem?_getD,List.getElem?_eq_getElem hi5];rfl,List.map_append]
    exact (RowsN.mono h2 fun p hp=>.tail _ hp).snoc (.head _) hz
  ·replace h2:RowsN own2 zs (up.map iP):=by
    have h2:RowsN own2 zs ((up.take vu.length).map iP):=h2
    rwa [List.take_of_length_le (by lia)] at h2
   have o9:∀ r∈up.map iP,∀ c∈r,c < 1114112:=by
    intro r hr c hc
    obtain ⟨v,_⟩:=bI hr
    exact iw (uG v c hc)
   have mR:∀ p∈R,p∈(E2,W.listOf zs.toArray zs.length)::(own2++R):=fun p hp=>.tail _ (apR hp)
   refine uh ok hC (mR _ mE) (.head _) (hrows.mono fun p hp=>mR _ (mO p hp)) (h2.mono fun p hp=>.tail _ (apL hp)) o9 o9 hD ?_
   rw [decide_eq_true rfl]
   exact ⟨rfl,rfl,fun p hp=>mR p (mN p hp)⟩
theorem HI (hC:C.Ok w S_law D) (hD:9≤D) {nx:Led} {lc xb xa:Addr} {z:Str} {k:Nat} {lu ld lt la:Addr} {n nl nh nA:Nat} {chg:Int} {ysA:List Value} (hA:(la,W.listOf ysA.toArray nA)∈nx) (hiA:IntsAre ysA (List.replicate n 1)) (e1:n=0→nl=nh∧chg=(nl:Int) - 1) {Q:KF} (hQ:Q .next (pmA lc xb xa z k lu ld lt nl nh chg la) nx):GoF (C.fm w S_law) (exec l_6 (C.fm w S_law).env) (pmA lc xb xa z k lu ld lt nl nh chg la) nx Q:=by
 have ok:=Cx.fmOk hC
 refine rM ok ?_ hQ
 refine bj ok (Nat.zero_le _) fun L xs hxs hL=>?_
 cases hxs
 refine CD ok hC (.tail _ hA) (.head _) hiA .nil hD ?_
 have fin:∀ p∈nx,p∈(L,W.listOf ([]:List Value).toArray 0)::nx:=fun p hp=>.tail _ hp
 refine And.intro (fun h=>?_) fun _=>⟨rfl,rfl,fin⟩
 have hn:n=0:=by simpa using congrArg List.length (of_decide_eq_true h)
 obtain ⟨rfl,rfl⟩:=e1 hn
 refine And.intro (fun h=>absurd h (by simp)) fun _=>And.intro (fun h=>absurd h (by simp)) fun _=>And.intro nofun fun _=>⟨rfl,rfl,fin⟩
end
end Mine
end
section
namespace Mine
theorem TabFor.of_gets {w:World} {base:Led} {x d l:Addr} {t0:Tok} {lw:Nat→List Nat} (h1:(x,instObj 317 d)∈base) (h2:(d,bx w l t0)∈base) (hg:GetsAs w base x id lw) (hl:∀ c∈five,(lw c).length≤4):TabFor w base x (fun c=>(lw c).length):=by
 refine ⟨⟨d,l,t0,h1,h2⟩,hl,fun news' c t hc hs=>?_⟩
 intro p loose mean mg mb dp un gd cn nm b1 b2 mr a ccd cl outer A₀ base h₀ L m s Q E B F X N T hd hu hret
 refine hg news' c t hc hs B F X N T hd hu fun v nx h' tk' hp=>hret v nx h' tk' ?_
 obtain ⟨D,ys,e1,e2,e3,e4⟩:=hp
 exact ⟨D,ys,e1,e2,e3,by rw [e4.length,List.length_map]⟩
theorem GetsAs.mono {w:World} {news news':Led} {x:Addr} {nm:Nat→Nat} {lw:Nat→List Nat} (h:GetsAs w news x nm lw) (hs:∀ p∈news,p∈news'):GetsAs w news' x nm lw:=fun nw c t hc hn=>h nw c t hc fun p hp=>hn p (hs p hp)
section
variable {C:Cx} {w:World} {D:Nat}
theorem EE (okT:C.OkT w S_law D) (h0:C.outer=[]) (hD:20≤D) (hf:LFr C) {nx rest codes codes2:Led} {ps ps2:Array Value} {lc xb xa db lb da la:Addr} {tb ta:Tok} {cs:List Nat} {i:Nat} {vc:List Value} {nc:Nat} {cells:List Int}
  (hcs:cs.length=10) (h5:∀ c∈cs,c∈five) (hi:i < 5) (hcl:cells.length=5) (K:n9 nx rest codes codes2 ps ps2) (hm:(lc,W.listOf vc.toArray nc)∈rest) (hvc:IntsAre vc cells)
  (hxb:(xb,instObj 317 db)∈rest) (hdb:(db,bx w lb tb)∈rest) (hxa:(xa,instObj 317 da)∈rest) (hda:(da,bx w la ta)∈rest)
  (gB:GetsAs w rest xb upC (lows (bQ cs (i + 1)))) (gB0:GetsAs w rest xb id (lows (bQ cs (i + 1)))) (gA:GetsAs w rest xa id (highs (bQ cs (i + 1)))) {Q:KF}
  (hQ:∀ lu ld lt nl nh chg la' nx' codes' codes2' ps' ps2',n9 nx' rest codes' codes2' ps' ps2'→(∀ p∈codes'++codes2',p∈codes++codes2∨∀ q∈rest,q.1 < p.1)→Q .next (pmA lc xb xa (Str.mk cs.toArray) i lu ld lt nl nh chg la') nx') :
  SS (C.fm w S_law) lawIf (pmK lc xb xa (Str.mk cs.toArray) i) nx Q:=by
 have hC:=okT.ok
 have ok:=Cx.fmOk hC
 have hk5:i + 1≤5:=hi
 have hup:(aw cs (i + 1)).length=5:=ew _ _
 have hlow:=uH hcs h5 (k:=i + 1) hk5
 have m356:(356,tabObj ps)∈nx:=K.sub _ (.head _)
 have m361:(361,tabObj ps2)∈nx:=K.sub _ (.tail _ (apR (.head _)))
 have hrest:∀ p∈rest,p∈nx:=fun p hp=>K.sub p (.tail _ (apR (.tail _ (apR hp))))
 refine bc ok (ri fun t u=>hC.use (d:=5) (by lia) fun os ap=>⟨os++nx,_,fun _ h=>h,tZ (n:=i + 1) hcs h5 hk5,?_⟩)
 rintro v nx' ⟨Dm,vu,nu,rfl,rfl,hDm,hvu⟩
 refine ⟨.v (.ref Dm),(Dm,W.listOf vu.toArray nu)::nx,rfl,fun p hp=>?_,fun p hp q hq=>?_,?_⟩
 ·rcases apX hp with hp | hp
  ·exact .tail _ (apL hp)
  ·rcases cnX hp with rfl | hp
   ·exact .head _
   ·exact .tail _ (apR hp)
 ·rcases cnX hq with rfl | hq
  ·exact hDm p (apL hp)
  ·exact ap p hp q hq
 refine HF hC hf (.head _) hvu hup hlow fun Dd ysd ownd hrD how hdd=>?_
 have mX:∀ p∈nx,p∈(Dd,W.listOf ysd.toArray ysd.length)::(ownd++(Dm,W.listOf vu.toArray nu)::nx):=fun p hp=>.tail _ (apR (.tail _ hp))
 have hDm':∀ p∈nx,p.1≠Dm:=fun p hp=>hDm p (apR hp)
 have hsR:∀ p∈rest,p∈(Dd,W.listOf ysd.toArray ysd.length)::(ownd++(Dm,W.listOf vu.toArray nu)::rest):=fun p hp=>.tail _ (apR (.tail _ hp))
 have hsX:∀ p∈(Dd,W.listOf ysd.toArray ysd.length)::(ownd++(Dm,W.listOf vu.toArray nu)::rest),p∈(Dd,W.listOf ysd.toArray ysd.length)::(ownd++(Dm,W.listOf vu.toArray nu)::nx):=fun p hp=>by
  rcases cnX hp with rfl | hp
  ·exact .head _
  rcases apX hp with hp | hp
  ·exact .tail _ (apL hp)
  rcases cnX hp with rfl | hp
  ·exact .tail _ (apR (.head _))
  ·exact mX p (hrest p hp)
 have off:∀ q∈nx,(∀ p∈rest,p.1≠q.1)→∀ p∈(Dd,W.listOf ysd.toArray ysd.length)::(ownd++(Dm,W.listOf vu.toArray nu)::rest),p.1≠q.1:=fun q hq hr p hp=>by
  rcases cnX hp with rfl | hp
  ·exact Ne.symm (hdd q (apR (.tail _ hq)))
  rcases apX hp with hp | hp
  ·exact Ne.symm (how p hp q (.tail _ hq))
  rcases cnX hp with rfl | hp
  ·exact Ne.symm (hDm' q hq)
  ·exact hr p hp
 have K2:n9 ((Dd,W.listOf ysd.toArray ysd.length)::(ownd++(Dm,W.listOf vu.toArray nu)::nx)) ((Dd,W.listOf ysd.toArray ysd.length)::(ownd++(Dm,W.listOf vu.toArray nu)::rest)) codes codes2 ps ps2:=by
  refine ⟨K.t1,K.t2,fun p hp=>?_,fun p hp=>⟨off _ m356 (fun p hp=>(K.b p hp).1) p hp,off _ m361 (fun p hp=>(K.b p hp).2) p hp⟩,K.c1,K.c2⟩
  rcases cnX hp with rfl | hp
  ·exact mX _ m356
  rcases apX hp with hp | hp
  ·exact mX _ (K.sub p (.tail _ (apL hp)))
  rcases cnX hp with rfl | hp
  ·exact mX _ m361
  rcases apX hp with hp | hp
  ·exact mX _ (K.sub p (.tail _ (apR (.tail _ (apL hp)))))
  ·exact hsX p hp
 have mU:(Dm,W.listOf vu.toArray nu)∈(Dd,W.listOf ysd.toArray ysd.length)::(ownd++(Dm,W.listOf vu.toArray nu)::rest):=.tail _ (apR (.head _))
 have mD:(Dd,W.listOf ysd.toArray ysd.length)∈(Dd,W.listOf ysd.toArray ysd.length)::(ownd++(Dm,W.listOf vu.toArray nu)::rest):=.head _
 have mO:∀ p∈ownd,p∈(Dd,W.listOf ysd.toArray ysd.length)::(ownd++(Dm,W.listOf vu.toArray nu)::rest):=fun p hp=>.tail _ (apL hp)
 generalize (Dd,W.listOf ysd.toArray ysd.length)::(ownd++(Dm,W.listOf vu.toArray nu)::rest)=R at K2 hsR mU mD mO
 refine CF okT h0 hD hf (f1:=f1 cs (i + 1)) (f2:=f2 cs (i + 1)) K2 ((TabFor.of_gets hxb hdb gB0 (w9 hcs h5 hk5)).mono hsR) ((TabFor.of_gets hxa hda gA (xc hcs h5 hk5)).mono hsR) (hsR _ hm) hvc hcl fun Lt yst ownt codes' codes2' ps' ps2' nx3 hrT K3 fr mT=>?_
 have mR:∀ p∈R,p∈nx3:=fun p hp=>K3.sub p (.tail _ (apR (.tail _ (apR hp))))
 refine CG hC hf (mR _ mU) hvu hup fun Da ysa na hia hna=>?_
 obtain ⟨z1,z2,z3⟩:=yv hcs h5 hk5
 have m4:∀ p∈rest,p∈(Da,W.listOf ysa.toArray ysa.length)::nx3:=fun p hp=>.tail _ (mR p (hsR p hp))
 refine HG hC (by lia) hf (m4 _ hxb) (m4 _ hdb) (gB.mono m4) (yt hcs h5 hk5) (.tail _ (mT _ (.head _))) (.tail _ (mR _ mD)) (.head _) (hrT.mono fun p hp=>.tail _ (mT p (.tail _ hp))) (hrD.mono fun p hp=>.tail _ (mR p (mO p hp))) hia (CB hcs h5 hk5) z1 (z2.trans hna.symm) ?_ ?_ ?_
 ·intro r hr c hc
  obtain ⟨x,_⟩:=bI hr
  exact iw (List.mem_filter.mp hc).1
 ·intro r hr c hc
  obtain ⟨x,_⟩:=bI hr
  obtain ⟨y,hy⟩:=bI hc
  exact iw (bk (List.mem_range.mp (List.mem_filter.mp hy).1))
 refine HH hC (by lia) hf (m4 _ hxa) (m4 _ hda) (gA.mono m4) (uI hcs h5 hk5) (.tail _ (mR _ mU)) hvu hup hlow (EC hcs h5 hk5) ?_
 refine HI hC (by lia) (.head _) hia (fun hz=>z3 (hna.mp hz)) ?_
 refine hQ _ _ _ _ _ _ _ _ codes' codes2' ps' ps2' ⟨K3.t1,K3.t2,fun p hp=>.tail _ ?_,K.b,K3.c1,K3.c2⟩ fun p hp=>(fr p hp).imp id fun h q hq=>h q (hsR q hq)
 rcases cnX hp with rfl | hp
 ·exact K3.sub _ (.head _)
 refine K3.sub p (.tail _ ?_)
 rcases apX hp with hp | hp
 ·exact apL hp
 refine apR ?_
 rcases cnX hp with rfl | hp
 ·exact .head _
 ·exact .tail _ ((apX hp).elim (apL) fun hp=>apR (hsR p hp))
end
end Mine
end
section
namespace Mine
section
variable {F:Fm} {pm:PM} {nx:Led}
theorem yw (ok:F.Ok) {a l u:PySem.Expr} {p pos:Pos} {Q:KV} (h:(WW F 30).1 a pm nx fun ov pm nx=>(WW F 30).1 l pm nx fun lv pm nx=>(WW F 30).1 u pm nx fun uv pm nx=>∃ x i j,asS ov=some x∧asI lv=some i∧asI uv=some j∧x.length≤1000∧Q (.s (Txt.slice x (some i) (some j))) pm nx)
  (hs:∀ x b,subscripted (.Slice (some l) (some u) none p) false x (.ref b)=operate [.ref b,x] (getItem x (.ref b)):=by intro _ _;rfl) (ht:∀ x r,letTemporaryGo a x r=pure ():=by intro _ _;rfl):GoV F (eval (.Subscript a (.Slice (some l) (some u) none p) pos) F.env) pm nx Q:=by
 intro s P hR hP
 refine Subscript_ ((ar ok 30).1 _ _ _ _ h s _ hR fun ov x _ _ s1 h1 hx hR1=>?_)
 refine wpAny_Slice ?_
 rw [evalPart_some,evalPart_some]
 refine (ar ok 30).1 _ _ _ _ h1 s1 _ hR1 fun lv y pm2 nx2 s2 h2 hy hR2=>?_
 refine (ar ok 30).1 _ _ _ _ h2 s2 _ hR2 fun uv y3 pm3 nx3 s3 h3 hy3 hR3=>wpAny_pure ?_
 obtain ⟨z,i,j,e1,e2,e3,hz,hq⟩:=h3
 obtain ⟨t,rfl⟩:=aJ e1 hx
 obtain ⟨t2,rfl⟩:=au e2 hy
 obtain ⟨t3,rfl⟩:=au e3 hy3
 obtain ⟨m,os,Fr',N,ap,_,mk⟩:=ok.opc hR3
 exact PyProof.Rows.slice_strN_ss_len Fr' N (fun h' t' k F' N' _=>hP _ _ _ _ _ hq ⟨_,rfl⟩ (mk h' k _ F' N' ap)) (hs _ _) (ht _) (by rw [sizeLine_eq];lia)
end
theorem Two.to {fixed':Led} {lb la:Addr} {eb ea:List (Nat×Nat)} {vb va:List Value} {nb na:Nat} {tups:Led} (hb:Tups tups vb eb) (ha:Tups tups va ea) (h1:∀ p∈tups,p.1≠lb∧p.1≠la) (h2:∀ p∈tups,∀ q∈fixed',p.1≠q.1):Two fixed' ((lb,W.listOf vb.toArray nb)::(la,W.listOf va.toArray na)::(tups++fixed')) lb la eb ea :=
 ⟨vb,nb,va,na,tups,rfl,hb,ha,fun p h=>⟨(h1 p h).1,(h1 p h).2,h2 p h⟩⟩
theorem CI {w:World} {fixed RB:Led} {xb db lb xa da la:Addr} {ps:List (Nat×Nat)} (T:Two fixed RB lb la (ee ps) (ef ps)) (H:Tabs w fixed xb db lb xa da la) (G:Good ps) {nm:Nat→Nat} (h1:∀ c∈five,nm c∈hdrChars) (h2:∀ c∈five,d7 (nm c)=c):GetsAs w RB xb nm (lows ps):=by
 intro news' c t hc hn p loose mean mg mb dp un gd cn nm9 b1 b2 mr a ccd cl outer A₀ base h₀ L m s Q E B F X N TT hd hu hret
 refine Fu T H hn (h1 c hc) G.eb (by simp only [ee,List.length_map];exact Nat.le_trans G.len (by decide)) B F X N TT hd hu fun v nx h' tk' hp=>hret v nx h' tk' ?_
 obtain ⟨D,ys,e1,e2,e3,e4⟩:=hp
 rw [wm G.mem,h2 c hc] at e4
 exact ⟨D,ys,e1,e2,e3,e4⟩
theorem HJ {w:World} {fixed RB:Led} {xb db lb xa da la:Addr} {ps:List (Nat×Nat)} (T:Two fixed RB lb la (ee ps) (ef ps)) (H:Tabs w fixed xb db lb xa da la) (G:Good ps) {nm:Nat→Nat} (h1:∀ c∈five,nm c∈hdrChars) (h2:∀ c∈five,d7 (nm c)=c):GetsAs w RB xa nm (highs ps):=by
 intro news' c t hc hn p loose mean mg mb dp un gd cn nm9 b1 b2 mr a ccd cl outer A₀ base h₀ L m s Q E B F X N TT hd hu hret
 refine Fv T H hn (h1 c hc) G.ea (by simp only [ef,List.length_map];exact Nat.le_trans G.len (by decide)) B F X N TT hd hu fun v nx h' tk' hp=>hret v nx h' tk' ?_
 obtain ⟨D,ys,e1,e2,e3,e4⟩:=hp
 rw [wo G.mem,h2 c hc] at e4
 exact ⟨D,ys,e1,e2,e3,e4⟩
structure LSt where
 ps:Array Value
 ps2:Array Value
 co:Led
 co2:Led
 X:Led
noncomputable abbrev LSt.fx (c:LSt) (fx:Led):Led:=fx++(356,tabObj c.ps)::(c.co++(361,tabObj c.ps2)::c.co2)
structure LSt.Ok (c:LSt) (fx:Led) (lb la:Addr) (es:List (Nat×Nat)):Prop where
 two:Two (c.fx fx) c.X lb la (ee es) (ef es)
 t1:Tab gh c.ps.toList c.co
 t2:Tab ey c.ps2.toList c.co2
 co:∀ p∈c.co++c.co2,(p.1≠356∧p.1≠361)∧p.1≠lb∧p.1≠la
structure HK (w:World) (fx:Led) (xb db lb xa da la:Addr):Prop where
 tabs:Tabs w fx xb db lb xa da la
 off:∀ q∈fx,q.1≠356∧q.1≠361
 b:lb≠356∧lb≠361
 a:la≠356∧la≠361
theorem Tabs.app {w:World} {fx gx:Led} {xb db lb xa da la:Addr} (T:Tabs w fx xb db lb xa da la) (h:∀ q∈gx,q.1≠lb∧q.1≠la):Tabs w (fx++gx) xb db lb xa da la :=
 ⟨apL T.ib,T.jb.imp fun _ h=>apL h,apL T.ia,T.ja.imp fun _ h=>apL h,T.ne,fun p hp=>(apX hp).elim (T.off p) (h p)⟩
theorem LSt.Ok.rest {c:LSt} {w:World} {fx:Led} {xb db lb xa da la:Addr} {es:List (Nat×Nat)} (h:c.Ok fx lb la es) (H:HK w fx xb db lb xa da la):∀ q∈(356,tabObj c.ps)::(c.co++(361,tabObj c.ps2)::c.co2),q.1≠lb∧q.1≠la:=by
 intro q hq
 rcases cnX hq with rfl | hq
 ·exact ⟨Ne.symm H.b.1,Ne.symm H.a.1⟩
 rcases apX hq with hq | hq
 ·exact (h.co q (apL hq)).2
 rcases cnX hq with rfl | hq
 ·exact ⟨Ne.symm H.b.2,Ne.symm H.a.2⟩
 ·exact (h.co q (apR hq)).2
noncomputable abbrev pmL (lc xb xa:Addr) (z:Str):PM:=[(Str.ofString "letters",.s z),(Str.ofString "plan",.s z),(Str.ofString "cells",.v (.ref lc)),(Str.ofString "below",.v (.ref xb)),(Str.ofString "above",.v (.ref xa))]
section
variable {C:Cx} {w:World} {D:Nat}
theorem CJ (okT:C.OkT w S_law D) (h0:C.outer=[]) (hD:20≤D) (hf:LFr C) {fx its X1:Led} {lc xb xa db lb da la:Addr} {tb ta:Tok} {cs:List Nat} {i:Nat} {vc:List Value} {nc:Nat} {cells:List Int} {c:LSt}
  (hcs:cs.length=10) (h5:∀ c∈cs,c∈five) (hi:i < 5) (hcl:cells.length=5) (H:HK w fx xb db lb xa da la) (hm:(lc,W.listOf vc.toArray nc)∈fx) (hvc:IntsAre vc cells)
  (hdb:(db,bx w lb tb)∈fx) (hda:(da,bx w la ta)∈fx) (hc:c.Ok fx lb la (bQ cs i)) (hoff:∀ p∈c.X,∀ q∈its,p.1≠q.1) {Q:KF}
  (hQ:∀ pm nx (c':LSt),c'.Ok fx lb la (bQ cs (i + 1))→Sub (pmL lc xb xa (Str.mk cs.toArray)) pm→(∀ p∈its++c'.X,p∈nx)→(∀ p∈c'.X,∀ q∈its,p.1≠q.1)→Q .next pm nx)
  (T1:Two (its++c.fx fx) X1 lb la (ee (bQ cs i)) (ef (bQ cs i))) (hq1:∀ q∈its,q.1≠lb∧q.1≠la):SS (C.fm w S_law) lawFor (pmK lc xb xa (Str.mk cs.toArray) i) X1 Q:=by
 have hC:=okT.ok
 have ok:=Cx.fmOk hC
 have r1:cs.getD (2 * i) 0∈five:=cV hcs h5 (by lia)
 have r2:cs.getD (2 * i + 1) 0∈five:=cV hcs h5 (by lia)
 have G:=ip hcs h5 i (by lia)
 have G2:=ip hcs h5 (i + 1) (by lia)
 have H1:Tabs w (its++c.fx fx) xb db lb xa da la:=(H.tabs.app (hc.rest H)).mores hq1
 refine bc ok ?_
 refine yw ok (And.intro (IntMulOk.of_left (by decide +kernel)) (And.intro (IntMulOk.of_left (by decide +kernel)) ⟨_,2 * (i:Int),2 * (i:Int) + 2,rfl,rfl,rfl,?_,?_⟩))
 ·show cs.length≤1000;lia
 rw [yq hcs hi]
 refine iX fun _ _ t=>hC.use (d:=9) (by lia) fun os ap=>?_
 obtain ⟨X2,T2,hX2,hq2⟩:=T1.mores (its:=os) fun p hp q hq=>Ne.symm (ap q hq p hp)
 refine ⟨X2,_,hX2,tX T2 (H1.mores hq2) G r1 r2,?_⟩
 rintro v nx' ⟨rfl,T3⟩
 obtain ⟨X3,T4,hX3,ap3⟩:=T3.lessM hq2 fun p hp q hq=>Ne.symm (ap q hq p (T1.fixed p hp))
 refine ⟨.v .none,X3,rfl,hX3,fun p hp q hq=>Ne.symm (ap3 q hq p hp),?_⟩
 replace T4:Two (its++c.fx fx) X3 lb la (ee (bQ cs (i + 1))) (ef (bQ cs (i + 1))):=T4
 clear T3 T2 hX2 hq2 hX3 ap3 ap
 refine aq ok (And.intro (fun _=>?_) fun _=>?_)
 ·obtain ⟨vb,nb,va,na,tups,rfl,hTb,hTa,hap⟩:=T4
  have mfx:∀ p∈fx,p∈its++c.fx fx:=fun p hp=>apR (apL hp)
  have mgx:∀ p∈(356,tabObj c.ps)::(c.co++(361,tabObj c.ps2)::c.co2),p∈its++c.fx fx:=fun p hp=>apR (apR hp)
  have hoff':∀ p∈c.fx fx,∀ q∈its,p.1≠q.1:=fun p hp=>hoff p (hc.two.fixed p hp)
  have m356:((356,tabObj c.ps):Addr×Obj)∈c.fx fx:=apR (.head _)
  have m361:((361,tabObj c.ps2):Addr×Obj)∈c.fx fx:=apR (.tail _ (apR (.head _)))
  have T5:Two (its++fx) ((lb,W.listOf vb.toArray nb)::(la,W.listOf va.toArray na)::(tups++(its++fx))) lb la (ee (bQ cs (i + 1))) (ef (bQ cs (i + 1))):=Two.to hTb hTa (fun p hp=>⟨(hap p hp).1,(hap p hp).2.1⟩) fun p hp q hq=>(hap p hp).2.2 q ((apX hq).elim (apL) (mfx q))
  have H5:Tabs w (its++fx) xb db lb xa da la:=H.tabs.mores hq1
  have mR:∀ p∈fx,p∈(lb,W.listOf vb.toArray nb)::(la,W.listOf va.toArray na)::(tups++(its++fx)):=fun p hp=>.tail _ (.tail _ (apR (apR hp)))
  have gB:=CI T5 H5 G2 (nm:=upC) (fun c hc=>rl hc) (fun c hc=>nK hc)
  have gB0:=CI T5 H5 G2 (nm:=id) (fun c hc=>di hc) (fun c hc=>gR hc)
  have gA:=HJ T5 H5 G2 (nm:=id) (fun c hc=>di hc) (fun c hc=>gR hc)
  refine EE okT h0 hD hf (rest:=(lb,W.listOf vb.toArray nb)::(la,W.listOf va.toArray na)::(tups++(its++fx))) (codes:=c.co) (codes2:=c.co2) (ps:=c.ps) (ps2:=c.ps2) hcs h5 hi hcl ⟨hc.t1,hc.t2,fun p hp=>?_,fun p hp=>?_,fun p hp=>(hc.co p (apL hp)).1,fun p hp=>(hc.co p (apR hp)).1⟩ (mR _ hm) hvc (mR _ H.tabs.ib) (mR _ hdb) (mR _ H.tabs.ia) (mR _ hda) gB gB0 gA fun lu ld lt nl nh chg la' nx' codes' codes2' ps' ps2' K' fr=>?_
  ·rcases cnX hp with rfl | hp
   ·exact .tail _ (.tail _ (apR (mgx _ (.head _))))
   rcases apX hp with hp | hp
   ·exact .tail _ (.tail _ (apR (mgx _ (.tail _ (apL hp)))))
   rcases cnX hp with rfl | hp
   ·exact .tail _ (.tail _ (apR (mgx _ (.tail _ (apR (.head _))))))
   rcases apX hp with hp | hp
   ·exact .tail _ (.tail _ (apR (mgx _ (.tail _ (apR (.tail _ hp))))))
   rcases cnX hp with rfl | hp
   ·exact .head _
   rcases cnX hp with rfl | hp
   ·exact .tail _ (.head _)
   rcases apX hp with hp | hp
   ·exact .tail _ (.tail _ (apL hp))
   rcases apX hp with hp | hp
   ·exact .tail _ (.tail _ (apR (apL hp)))
   ·exact .tail _ (.tail _ (apR (mfx p hp)))
  ·rcases cnX hp with rfl | hp
   ·exact H.b
   rcases cnX hp with rfl | hp
   ·exact H.a
   rcases apX hp with hp | hp
   ·exact ⟨(hap p hp).2.2 _ (mgx _ (.head _)),(hap p hp).2.2 _ (mgx _ (.tail _ (apR (.head _))))⟩
   rcases apX hp with hp | hp
   ·exact ⟨Ne.symm (hoff' _ m356 p hp),Ne.symm (hoff' _ m361 p hp)⟩
   ·exact H.off p hp
  have hco:∀ p∈codes'++codes2',(p.1≠lb∧p.1≠la)∧(∀ q∈its,p.1≠q.1)∧∀ t∈tups,t.1≠p.1:=fun p hp=>by
   rcases fr p hp with h | h
   ·have hg:p∈(356,tabObj c.ps)::(c.co++(361,tabObj c.ps2)::c.co2):=(apX h).elim (fun h=>.tail _ (apL h)) fun h=>.tail _ (apR (.tail _ h))
    exact ⟨(hc.co p h).2,fun q hq=>hoff' p (apR hg) q hq,fun t ht=>(hap t ht).2.2 p (mgx p hg)⟩
   ·exact ⟨⟨Nat.ne_of_gt (h _ (.head _)),Nat.ne_of_gt (h _ (.tail _ (.head _)))⟩,fun q hq=>Nat.ne_of_gt (h q (.tail _ (.tail _ (apR (apL hq))))),fun t ht=>Nat.ne_of_lt (h t (.tail _ (.tail _ (apL ht))))⟩
  have hgx:∀ q∈fx++(356,tabObj ps')::(codes'++(361,tabObj ps2')::codes2'),(∀ t∈tups,t.1≠q.1)∧∀ r∈its,q.1≠r.1:=fun q hq=>by
   rcases apX hq with hq | hq
   ·exact ⟨fun t ht=>(hap t ht).2.2 q (mfx q hq),hoff' q (apL hq)⟩
   rcases cnX hq with rfl | hq
   ·exact ⟨fun t ht=>(hap t ht).2.2 (356,tabObj c.ps) (mgx _ (.head _)),hoff' (356,tabObj c.ps) m356⟩
   rcases apX hq with hq | hq
   ·exact ⟨(hco q (apL hq)).2.2,(hco q (apL hq)).2.1⟩
   rcases cnX hq with rfl | hq
   ·exact ⟨fun t ht=>(hap t ht).2.2 (361,tabObj c.ps2) (mgx _ (.tail _ (apR (.head _)))),hoff' (361,tabObj c.ps2) m361⟩
   ·exact ⟨(hco q (apR hq)).2.2,(hco q (apR hq)).2.1⟩
  refine hQ _ _ ⟨ps',ps2',codes',codes2',(lb,W.listOf vb.toArray nb)::(la,W.listOf va.toArray na)::(tups++(fx++(356,tabObj ps')::(codes'++(361,tabObj ps2')::codes2')))⟩ ⟨Two.to hTb hTa (fun p hp=>⟨(hap p hp).1,(hap p hp).2.1⟩) fun p hp q hq=>(hgx q hq).1 p hp,K'.t1,K'.t2,fun p hp=>⟨(apX hp).elim (K'.c1 p) (K'.c2 p),(hco p hp).1⟩⟩ ⟨rfl,rfl,rfl,rfl,rfl,trivial⟩ (fun p hp=>?_) fun p hp q hq=>?_
  ·have kr:∀ p∈(lb,W.listOf vb.toArray nb)::(la,W.listOf va.toArray na)::(tups++(its++fx)),p∈nx':=fun p hp=>K'.sub p (.tail _ (apR (.tail _ (apR hp))))
   rcases apX hp with hp | hp
   ·exact kr p (.tail _ (.tail _ (apR (apL hp))))
   rcases cnX hp with rfl | hp
   ·exact kr _ (.head _)
   rcases cnX hp with rfl | hp
   ·exact kr _ (.tail _ (.head _))
   rcases apX hp with hp | hp
   ·exact kr p (.tail _ (.tail _ (apL hp)))
   rcases apX hp with hp | hp
   ·exact kr p (mR p hp)
   rcases cnX hp with rfl | hp
   ·exact K'.sub _ (.head _)
   rcases apX hp with hp | hp
   ·exact K'.sub p (.tail _ (apL hp))
   rcases cnX hp with rfl | hp
   ·exact K'.sub _ (.tail _ (apR (.head _)))
   ·exact K'.sub p (.tail _ (apR (.tail _ (apL hp))))
  ·rcases cnX hp with rfl | hp
   ·exact Ne.symm (hq1 q hq).1
   rcases cnX hp with rfl | hp
   ·exact Ne.symm (hq1 q hq).2
   rcases apX hp with hp | hp
   ·exact (hap p hp).2.2 q (apL hq)
   ·exact (hgx p hp).2 q hq
 ·obtain ⟨X4,T5,hX4,ap4⟩:=T4.lessM hq1 fun p hp q hq=>hoff p (hc.two.fixed p hp) q hq
  exact hQ _ _ ⟨c.ps,c.ps2,c.co,c.co2,X4⟩ ⟨T5,hc.t1,hc.t2,hc.co⟩ ⟨rfl,rfl,rfl,rfl,rfl,trivial⟩ hX4 ap4
end
end Mine
end
section
namespace Mine
section
variable {F:Fm} {pm:PM} {nx:Led} {D:Nat}
theorem CK (ok:F.Ok) (hC:F.C.Ok F.w F.sc D) (hD:4≤D) {pos:Pos} {Q:KV} (h:∀ x d l t,(∀ p∈nx,p.1 < d)→d < x→x < l→Q (.v (.ref x)) pm ((l,W.listOf #[] 0)::(x,instObj 317 d)::(d,bx F.w l t)::nx)):∀ y,(PV.v (.ref 317)).Is y→GoV F (callWith pos y [] (backTo pos (starEach [] F.env)) []) pm nx Q:=by
 intro y hy s P hR hP
 obtain rfl:=hy
 obtain ⟨m,os,Fr',N,ap,_,mk⟩:=ok.opc hR
 refine callWith_K0 (K:=K F.w.params) (hC.X.keeps Fr'.keep) (by kernel_rfl) ?_
 refine ok.use hC (d:=4) hD (fun os ap=>⟨_,_,fun _ h=>h,Iw,?_⟩) s P hR hP
 rintro v nx' ⟨x,d,l,t,rfl,rfl,h1,h2,h3⟩
 refine ⟨.v (.ref x),(l,W.listOf #[] 0)::(x,instObj 317 d)::(d,bx F.w l t)::nx,rfl,fun p hp=>?_,fun p hp q hq=>?_,h x d l t (fun p hp=>h1 p (apR hp)) h2 h3⟩
 ·rcases apX hp with hp | hp
  ·exact .tail _ (.tail _ (.tail _ (apL hp)))
  rcases cnX hp with rfl | hp
  ·exact .head _
  rcases cnX hp with rfl | hp
  ·exact .tail _ (.head _)
  rcases cnX hp with rfl | hp
  ·exact .tail _ (.tail _ (.head _))
  ·exact .tail _ (.tail _ (.tail _ (apR hp)))
 ·have h1:@LT.lt Nat _ p.1 d:=h1 p (apL hp)
  rcases cnX hq with rfl | hq
  ·exact Nat.ne_of_lt (Nat.lt_trans h1 (Nat.lt_trans h2 h3))
  rcases cnX hq with rfl | hq
  ·exact Nat.ne_of_lt (Nat.lt_trans h1 h2)
  rcases cnX hq with rfl | hq
  ·exact Nat.ne_of_lt h1
  ·exact ap p hp q hq
end
structure Chain (lc db xb lb da xa la:Nat):Prop where
 ab:lb≠la
 b:lb≠356∧lb≠361
 a:la≠356∧la≠361
 all:∀ x∈[xa,da,xb,db,lc],(x≠lb∧x≠la)∧x≠356∧x≠361
theorem chain {lc db xb lb da xa la:Nat} (h1:356 < lc) (h2:361 < lc) (h3:lc < db) (h4:db < xb) (h5:xb < lb) (h6:lb < da) (h7:da < xa) (h8:xa < la):Chain lc db xb lb da xa la:=by
 have k1:=Nat.lt_trans h4 h5
 have k2:=Nat.lt_trans h3 k1
 have k3:=Nat.lt_trans h7 h8
 have k4:=Nat.lt_trans h6 k3
 have k5:=Nat.lt_trans h6 h7
 have g:∀ x,lc≤x→x≠356∧x≠361:=fun x hx=>⟨Nat.ne_of_gt (Nat.lt_of_lt_of_le h1 hx),Nat.ne_of_gt (Nat.lt_of_lt_of_le h2 hx)⟩
 have q:=Nat.le_of_lt (Nat.lt_trans k2 h6)
 have lo:∀ x,x < lb→x≠lb∧x≠la:=fun x hx=>⟨Nat.ne_of_lt hx,Nat.ne_of_lt (Nat.lt_trans hx k4)⟩
 refine ⟨Nat.ne_of_lt k4,g _ (Nat.le_of_lt k2),g _ (Nat.le_of_lt (Nat.lt_trans k2 k4)),?_⟩
 simp only [List.forall_mem_cons]
 exact ⟨⟨⟨Nat.ne_of_gt k5,Nat.ne_of_lt h8⟩,g _ (Nat.le_trans q (Nat.le_of_lt h7))⟩,⟨⟨Nat.ne_of_gt h6,Nat.ne_of_lt k3⟩,g _ q⟩,⟨lo _ h5,g _ (Nat.le_of_lt (Nat.lt_trans h3 h4))⟩,⟨lo _ k1,g _ (Nat.le_of_lt h3)⟩,⟨lo _ k2,g _ (Nat.le_refl _)⟩,fun x hx=>nomatch hx⟩
section
variable {C:Cx} {w:World} {D:Nat}
theorem CL (okT:C.OkT w S_law D) (h0:C.outer=[]) (hD:20≤D) (hf:LFr C) {nx:Led} {l lc:Addr} {cs:List Nat} {vc:List Value} {nc:Nat} {cells:List Int}
  (hcs:cs.length=10) (h5:∀ c∈cs,c∈five) (hcl:cells.length=5) (hvc:IntsAre vc cells) (m0:(lc,W.listOf vc.toArray nc)∈nx) (m1:(356,tabObj #[])∈nx) (m2:(361,tabObj #[])∈nx) (hlc:(356:Nat) < lc∧(361:Nat) < lc) {Q:KF}
  (hQ:∀ ps ps2 pm' nx',(356,tabObj ps)∈nx'→(361,tabObj ps2)∈nx'→Q (.ret (.v (.bool true))) pm' nx'):SS (C.fm w S_law) (B_law.drop 4) (FW l lc (Str.mk cs.toArray)) nx Q:=by
 have hC:=okT.ok
 have ok:=Cx.fmOk hC
 refine mq hC rfl ⟨rfl,(aD rfl)⟩ ?_
 refine CK ok hC (by lia) fun xb db lb tb b1 b2 b3=>?_
 refine CK ok hC (by lia) fun xa da la ta a1 a2 a3=>?_
 refine ⟨rfl,?_⟩
 have c1:@LT.lt Nat _ lc db:=b1 _ m0
 have c2:@LT.lt Nat _ lb da:=a1 _ (.head _)
 have o:=chain hlc.1 hlc.2 c1 b2 b3 c2 a2 a3
 have hfx:HK w [(xa,instObj 317 da),(da,bx w la ta),(xb,instObj 317 db),(db,bx w lb tb),(lc,W.listOf vc.toArray nc)] xb db lb xa da la:=by
  refine ⟨⟨.tail _ (.tail _ (.head _)),⟨tb,.tail _ (.tail _ (.tail _ (.head _)))⟩,.head _,⟨ta,.tail _ (.head _)⟩,o.ab,fun q hq=>?_⟩,fun q hq=>?_,o.b,o.a⟩
  ·exact (o.all q.1 (List.mem_map_of_mem (f:=(·.1)) hq)).1
  ·exact (o.all q.1 (List.mem_map_of_mem (f:=(·.1)) hq)).2
 have mN:∀ p∈[(xa,instObj 317 da),(da,bx w la ta),(xb,instObj 317 db),(db,bx w lb tb),(lc,W.listOf vc.toArray nc)],p∈(la,W.listOf #[] 0)::(xa,instObj 317 da)::(da,bx w la ta)::(lb,W.listOf #[] 0)::(xb,instObj 317 db)::(db,bx w lb tb)::nx:=by
  simp only [List.forall_mem_cons]
  exact ⟨.tail _ (.head _),.tail _ (.tail _ (.head _)),.tail _ (.tail _ (.tail _ (.tail _ (.head _)))),.tail _ (.tail _ (.tail _ (.tail _ (.tail _ (.head _))))),.tail _ (.tail _ (.tail _ (.tail _ (.tail _ (.tail _ m0))))),fun p hp=>nomatch hp⟩
 have f1:(lc,W.listOf vc.toArray nc)∈[(xa,instObj 317 da),(da,bx w la ta),(xb,instObj 317 db),(db,bx w lb tb),(lc,W.listOf vc.toArray nc)]:=.tail _ (.tail _ (.tail _ (.tail _ (.head _))))
 have f2:(db,bx w lb tb)∈[(xa,instObj 317 da),(da,bx w la ta),(xb,instObj 317 db),(db,bx w lb tb),(lc,W.listOf vc.toArray nc)]:=.tail _ (.tail _ (.tail _ (.head _)))
 have f3:(da,bx w la ta)∈[(xa,instObj 317 da),(da,bx w la ta),(xb,instObj 317 db),(db,bx w lb tb),(lc,W.listOf vc.toArray nc)]:=.tail _ (.head _)
 generalize [(xa,instObj 317 da),(da,bx w la ta),(xb,instObj 317 db),(db,bx w lb tb),(lc,W.listOf vc.toArray nc)]=fx at hfx mN f1 f2 f3
 have T0:Two (fx++[(356,tabObj #[]),(361,tabObj #[])]) ((lb,W.listOf #[] 0)::(la,W.listOf #[] 0)::(fx++[(356,tabObj #[]),(361,tabObj #[])])) lb la [] []:=Two.to (vb:=[]) (va:=[]) (nb:=0) (na:=0) (tups:=[]) .nil .nil (fun p hp=>nomatch hp) (fun p hp=>nomatch hp)
 refine iR hC ?_
 refine cO rfl (fun r t1 u1 v1 hr0=>?_) hC
 refine iS hC (fun _=>pmL lc xb xa (Str.mk cs.toArray)) (fun c:LSt=>c.X) (fun i c=>c.Ok fx lb la (bQ cs i)) ⟨#[],#[],[],[],_⟩ (.head _) (rt (Nat.le_refl 5)).1 (rt (Nat.le_refl 5)).2 ⟨⟨T0,.nil,.nil,fun p hp=>nomatch hp⟩,⟨rfl,rfl,rfl,rfl,rfl,trivial⟩,fun p hp=>.tail _ ?_⟩ (fun i c its hi hP hoff Q1 hQ1 hR1=>?_) (fun c hP=>?_)
 ·rcases cnX hp with rfl | hp
  ·exact .tail _ (.tail _ (.tail _ (.head _)))
  rcases cnX hp with rfl | hp
  ·exact .head _
  rcases apX hp with hp | hp
  ·exact mN p hp
  refine .tail _ (.tail _ (.tail _ (.tail _ (.tail _ (.tail _ ?_)))))
  rcases cnX hp with rfl | hp
  ·exact m1
  rw [sgX hp]
  exact m2
 ·obtain ⟨X1,T1,hX1,hq1⟩:=hP.two.mores hoff
  exact ⟨.i i,X1,fun t=>⟨t,by rw [Int.zero_add]⟩,hX1,CJ okT h0 hD hf hcs h5 hi hcl hfx f1 hvc f2 f3 hP hoff hQ1 T1 hq1⟩
 ·exact hQ _ _ _ _ (hP.two.fixed _ (apR (.head _))) (hP.two.fixed _ (apR (.tail _ (apR (.head _)))))
theorem EF (okT:C.OkT w S_law D) (h0:C.outer=[]) (hD:20≤D) (hf:LFr C) {nx:Led} {l:Addr} {vs:List Value} {ns:List Int} (hL:C.h₀.IsList l vs.toArray) (hI:IntsAre vs ns) (hn:ns.length≤63) (m1:(356,tabObj #[])∈nx) (m2:(361,tabObj #[])∈nx) {Q:KF}
  (hQ:∀ ps ps2 pm' nx',(356,tabObj ps)∈nx'→(361,tabObj ps2)∈nx'→Q (.ret (.v (.bool true))) pm' nx'):SS (C.fm w S_law) B_law (pm0 [(Str.ofString "script",Value.ref l)]) nx Q:=by
 refine Cr (a:=B_law.take 4) (b:=B_law.drop 4) ?_
 refine Cv okT.ok (by lia) hf.cl hL hI hn fun lc vc nc nx' hIc hlc hs=>?_
 exact CL okT h0 hD hf (by rw [mc,show (cellsOf ns).length=5 from bf _ _]) (lx _) (bf _ _) hIc (hs _ (.head _)) (hs _ (.tail _ m1)) (hs _ (.tail _ m2)) ⟨hlc _ m1,hlc _ m2⟩ hQ
end
end Mine
end
section
namespace Mine
noncomputable abbrev CM (L fa:Addr) (cd:Value):Env:=envOfC (Str.ofString "law") S_law L fa cd
theorem CN {w:World} {loose:List Str} {mean:ExcName→Option Value} {mg mb:Str→Option Value} {g:Heap} {L fa:Addr} {cd:Value} {m cm:Str→Option Value} {s:Shared} {Q:Flow→Shared→Prop} {E:Value→Shared→Prop} {p:Program}
  {l:Addr} {vs:List Value} {ns:List Int} {os:Led} (B:Below callerA g [] g) (F:Fr g L s.heap m) (X:(K w.params).In g) (N:News g L s.heap (os++[(356,tabObj #[]),(361,tabObj #[])])) (T:Top p loose mean mg mb g) (Y:CellsAre cm (cellsFrom (L + 1) S_law.names []) os)
  (hl:g.IsList l vs.toArray) (hI:IntsAre vs ns) (hn:ns.length≤63) (q:m (Str.ofString "script")=some (.ref l)) (l0:356 < L∧361 < L)
  (H:∀ h tk m' news ps ps2,Fr g L h m'→News g L h news→(356,tabObj ps)∈news→(361,tabObj ps2)∈news→Q (.ret (.bool true)) { s with heap:=h,toks:=tk }) :
  wpAny (model PySem.Challenge.rw_tc0096_01.prog w) (callerA.deeper (CM L fa cd)) (execs B_law (CM L fa cd)) Q E s:=by
 have hnd:=fU (l:=S_law.names) rfl
 have ca:=dT (m:=L + 1) S_law.names (L + 1) [] (Nat.le_refl _) List.nodup_nil (fun p hp=>nomatch hp)
 let C:Cx:=⟨(callerA.deeper (CM L fa cd)).depth,(callerA.deeper (CM L fa cd)).units,(callerA.deeper (CM L fa cd)).guards,Str.ofString "law",L,fa,cd,cellsFrom (L + 1) S_law.names [],[],callerA,g,g,s,p,loose,mean,mg,mb⟩
 have hC:C.Ok w S_law 20:=⟨B,X,T,rfl,by show 1 + claimMargin + 1 + 20 < recursionLimit;decide +kernel,by show callerA.units + 3 + 8 * 20 < cLine;decide +kernel,dn hnd List.nodup_nil fun x _=>List.not_mem_nil,ca.1,fun x hx=>Option.isSome_iff_exists.mp (cellsFrom_some _ _ _ (.inl hx))⟩
 have okT:C.OkT w S_law 20:=⟨hC,X,T,fun b hb=>nomatch hb⟩
 refine a7 (iO (Cx.fmOk hC) _ _ _ _ (EF okT rfl (Nat.le_refl _) ⟨rfl⟩ hl hI hn (.head _) (.tail _ (.head _)) (Q:=fun f _ nx=>f=.ret (.v (.bool true))∧∃ ps ps2,(356,tabObj ps)∈nx∧(361,tabObj ps2)∈nx) fun ps ps2 pm' nx' h1 h2=>⟨rfl,ps,ps2,h1,h2⟩) s _ ⟨m,cm,os,F,N,Y,fun p hp r hr=>?_,fun x pv hx=>?_,_,_,rfl⟩ fun f fl pm nx s' hq hf hR=>?_) fun _ _ h=>h
 ·have h1:p.1∈os.map (·.1):=List.mem_map_of_mem hp
  rw [fP Y] at h1
  obtain ⟨z,hz,e⟩:=List.mem_map.mp h1
  have h2:L + 1≤p.1:=e▸ca.2 z hz
  have h3:r.1 < L:=by
   rcases cnX hr with rfl | hr
   ·exact l0.1
   ·rw [sgX hr];exact l0.2
  exact Nat.ne_of_gt (Nat.lt_of_lt_of_le h3 (Nat.le_of_succ_le h2))
 ·obtain ⟨v,rfl,hm⟩:=kL hx
  cases sgX hm
  exact .loc _ rfl rfl rfl q
 ·obtain ⟨rfl,ps,ps2,h1,h2⟩:=hq
  obtain ⟨v,rfl,rfl⟩:=hf
  obtain ⟨m',cm',os',F',N',_,_,_,h',k',rfl⟩:=hR
  exact H _ _ _ _ ps ps2 F' N' (apR h1) (apR h2)
end Mine
end
end
section
namespace Mine
set_option maxHeartbeats 0
noncomputable def dLaw:DefRec:={ name:=.ofString "law",params:=yx,body:=B_law,scope:=S_law,pos:=⟨328,0,348,15⟩ }
theorem walk:WalkO qV loose (XL qV []) hk.says PySem.Challenge.rw_tc0096_01.row.toRowW dLaw [] fun f vs=>call f vs:=by
 show WalkO qV loose (XL qV []) (kHook K Kas Ik).says PySem.Challenge.rw_tc0096_01.row.toRowW dLaw [] fun f vs=>call f vs
 k_fill
 intro w s₀ s₁ mg mb G Y fa o pm cd doc dV kV ho hd hcd hD hmg hg args vals as hpre hlay hrd hwl hlo
 have KX:=kIn_of Y
 replace hmg:mg (Str.ofString "law")=some (Value.ref fa):=hmg
 k_behind G ho hd hcd hD hmg hpre hlay hrd hwl hlo cd
 rename Fr _ _ _ _=>FF
 rename Frag.In _ _=>XX
 rename Below _ _ _ _=>BB
 rename Top _ _ _ _ _ (ghostOf _ _)=>TT
 rename News _ _ _ _=>NN
 rename IntsAre _ _=>II
 rename _∧_=>LL0
 rename CellsAre _ _ _=>YY
 refine CN (os:=[_,_,_]) BB FF XX NN TT YY lifted II (by omega) (by with_unfolding_all rfl) LL0 ?_
 intro h2 tk2 m2 news ps ps2 F2 N2 g1 g2
 refine ⟨goodW_bool F2 hg (raisesW_false (by wrow_none_raised)) (by wrow_post),GrownAt.of N2 g1,GrownAt.of N2 g2,trivial⟩
end Mine
end
section
open PySem PySem.W PyProof.Rows PySem.Spec PySem.Calls
set_option maxRecDepth 100000
set_option Elab.async false
set_option maxHeartbeats 8000000 in
theorem PySem.Challenge.cw_tc0096_01_holds : PySem.Challenge.rw_tc0096_01.Holds := by
 w_on
 refine holds_law Mine.well fun said=>?_
 refine holds_open (q:=Mine.qV) (loose:=Mine.loose) (Xt:=Mine.XtV) (XP:=XL Mine.qV []) (Yf:=Hook.obs Mine.hk) (Ya:=Hook.val Mine.hk) (YP:=Hook.says Mine.hk) (N:=20000) (d:=Mine.dLaw) (kwd:=[]) Mine.left (Hook.of Mine.hk) (Hook.keeps Mine.hk) (fun s e=>xl_of s (Bool.and_eq_true_iff.mp e).1) XL.keeps (by rfl) (by rfl) (by rfl) (fun s e=>recFacts_of (Bool.and_eq_true_iff.mp e).2) (by rfl) (by first | assumption | decide +kernel) (by decide +kernel) ⟨rfl,rfl,rfl,rfl,rfl,by decide +kernel⟩ ?hw Mine.walk
 case hw=>w_witness2
end
