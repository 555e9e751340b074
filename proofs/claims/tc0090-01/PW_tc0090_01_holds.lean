import PyProof.Rows.All
import Wide.All
import OpenK.AllK
import Wide.FinOn
import PyProof.StationsW
import KE.KLam
import PyProof.DictUpdate
import PyProof.TupleOps
import PyProof.AutoSeq1
import Lean
import PySem.Challenge.RW_tc0090_01
set_option Elab.async false
set_option compiler.extract_closed false
set_option tactic.hygienic false
set_option maxRecDepth 100000
set_option linter.unusedVariables false
set_option maxHeartbeats 4000000
open PySem PySem.W PyProof.Rows
namespace Mine.Internal
def rd(D:List (List String))(e:Lean.Syntax):Nat→List Lean.Syntax→String→List Lean.Syntax
 |0,l,_=>l
 |n+1,l,t=>if t.front='\'' then .atom .none (t.drop 1).toString::l else match t.splitOn ":" with
  |[k,a]=>let m:=k.toNat!;.node .none (if a="" then `null else a.toName) (l.take m).reverse.toArray::l.drop m
  |_=>match D.find? (·.head! ==t) with
   |some w=>w.tail.foldl (rd D e n) l
   |none=>(if t="E0" then e else Lean.mkIdent t.toName)::l
def wd(e:Lean.Syntax)(t:String):Lean.MacroM Lean.Syntax:=pure (rd (("D 0:\nL A B\n& 1:str 2:PyProof.Rows.tacticWalk_at_\nW 2:\n< 2:Lean.Parser.Tactic.exact\n~ '? #\n( 'exact\n; 'walk_at\nX + T\nB ! ?\n! r e\n+ 'by 'with_unfolding_all\nF 2:group\n$ 2:Lean.Parser.Tactic.withUnfoldingAll .\n/ F '|\n_ 'with_reducible\n{ 2:Lean.Parser.Tactic.first\n} 1: r\nC 'first '|\nw v %\nx a D\nN 1:num @\nj '( V\ny t _\nz ~ W\n- 2:Lean.Parser.Tactic.withReducible\n> 4:Lean.Parser.Term.basicFun 2:Lean.Parser.Term.fun\nQ 'refine\nS 'fun J\nY D '=>\n% , 2:Lean.Parser.Tactic.decide\n, 1:Lean.Parser.Tactic.optConfig\n. 2:Lean.Parser.Term.byTactic\n) 'decide\n^ 2:Lean.Parser.Tactic.posConfigItem 1:Lean.Parser.Tactic.configItem\nU '+ kernel\nn ; '\"mv\"\n= 3:Lean.Parser.Tactic.simpLemma\n? / Q\nT * $\n1a ; '\"3\"\nE 3:Lean.Parser.Tactic.unfold 'dsimp\nH D PySem.Challenge.pw_tc0090_01\nI 2:Lean.Parser.Term.dotIdent +\nK 6:Lean.Parser.Tactic.dsimp W\nM '_ 1:Lean.Parser.Term.hole\nO D List.getElem?_cons_succ\nP D List.getElem?_cons_zero\nR ( List.mem_cons_self\nt - /\n0a 'only 1:\n* 'rfl 1:Lean.Parser.Tactic.tacticRfl\n@ ') 5:Lean.Parser.Term.namedArgument\nA ~ 1:\nG 'kernel_rfl 1:tacticKernel_rfl\nZ 2:Lean.Parser.Tactic.apply G\ne 2:Lean.Parser.Tactic.refine\no ? List.mem_cons_of_mem\nr 2:Lean.Parser.Term.app\n# '_ 2:Lean.Parser.Term.syntheticHole\nV c ':=\na = ',\nv ) D\nk ) U ^ 1: %\n⋯ 'by G .\n∅ 'by ) U ^ 1: % .\nomega 'lia D , 2:Lean.Parser.Tactic.lia\nex C _ ( ns E0 } < y ( sn E0 } < y ( ft E0 } < y ( tf E0 } < t 'have D 1:Lean.Parser.Term.letConfig q 1:Lean.Parser.Term.letId D D ':= Option.some.inj E0 } 5:Lean.Parser.Term.letIdDecl 1:Lean.Parser.Term.letDecl 3:Lean.Parser.Tactic.tacticHave__ 'subst q 1: 2:Lean.Parser.Tactic.subst W / 'cases D E0 2:Lean.Parser.Tactic.elimTarget 1: D D 4:Lean.Parser.Tactic.cases F 6: {\nm C R < o M z ! ; '\"m\" & W F W {\ng C _ R < - o M z ! ; '\"g\" & W / R < F 3: {\ns C _ * y ( FS < y ( FB < y ( DX < y ( List.length_map M } < t w / ; '\"m\" & / 'simp D , D D D D 6:Lean.Parser.Tactic.simp F 8: {\nd C ( ba.nil < / _ 'apply ba.here Z W y 'apply ba.cons Z ; '\"d\" & 3: - F 3: {\nin C ( mU < ? bQ ~ z ! ; '\"m\" & ; '\"in\" & 3: / 'skip 1:Lean.Parser.Tactic.skip F 3: {\nmv C _ Q cm '( u ':= ~ @ ~ ~ 3: ! 'rotate_left D 2:Lean.Parser.Tactic.rotateLeft ; '\"g\" & 3: y C Q aw L tX L an L Fe L jN L fP L fN L DU L i0 L B7 L bJ X z B qO X z B B6 L DQ L DT L vG L vB X z B xH L B8 L DR L DS L sZ j '10 N X + w $ + w $ ~ 5: B sZ j '100 N X + w $ + w $ ~ 5: B sZ j '1000 N X + w $ + w $ ~ 5: B lc j '10 N X + w $ ~ 4: B lc j '4 N X + w $ ~ 4: B lc j '5 N X + w $ ~ 4: B wJ j '9 N X ~ 3: B ET j '4 N X ~ 3: B yI j '1 N X ~ 3: B jZ L rA L wK L DG L DH L DF L zE L Bc L fh L EW A ! F 40: { - ? '⟨ Nat.le_of_ble_eq_true rfl } ', ~ 3: '⟩ 3:Lean.Parser.Term.anonymousCtor e F 3: {\nasg _ Q fA X X X ~ 4: ! -\nixn _ Q DV S J W Y '. inl I T } > z ! -\nix _ Q Ad S J W Y '. inl I T } > z ! -\nslc _ Q Ad S J W Y '. inr I T } > z ! -\nf 'unfold av 1: D E D , D 0a '[ D D pw x H x O x P = 7: '] 3: D K\nl 'unfold rc av W D E D , D 0a '[ D D pw x H x O x P x D Option.getD_some = 9: '] 3: D K\nb 'unfold dw og W D E D , D 0a '[ D D pw x H x O x P = 7: '] 3: D K\n2 n & n & W\n3 n & n & n & 3:\n4 ; '\"2\" & ; '\"2\" & W\n5 ; '\"2\" & 1a & W\n6 1a & 1a & W\n7 1a & ; '\"4\" & W\n8 ; '\"4\" & ; '\"4\" & W\np Q uB 'by ) U ^ 1: % . 'by ) U ^ 1: % . 'by ) U ^ 1: % . ~ 4: !\ntr C ( S h W Y h > < / ( S h W Y 'nomatch h 1: 2:Lean.Parser.Term.nomatch > < F W {\ni C ( S J q 3: Y q > < / ( S J J q 4: Y q > < F W {\ne3 ( S J J q 4: Y q.elim > <".splitOn "\n").map (·.splitOn " ")) e 9 [] t).head!
local macro_rules | `(⋯)=>wd .missing "⋯"
local macro_rules | `(∅)=>wd .missing "∅"
local macro_rules | `(tactic| omega)=>wd .missing "omega"
local macro_rules | `(tactic| walk_at $s:str)=>wd s s.getString
local macro_rules | `(tactic| exists $e:term)=>wd e "ex"
variable{p q z:Prop}
theorem am(f:p→q→z)(g:p∧q):z:=f g.1 g.2
variable{α:Type}
theorem af{p:α→Prop}(f:∀ a,p a→z)(g:∃ a,p a):z:=g.elim fun a g=>f a g
variable{r:Prop}
theorem gT(f:p→q→r→z)(g:p∧q∧r):z:=f g.1 g.2.1 g.2.2
theorem ab{p q:α→Prop}(f:∀ a,p a→q a→z)(g:∃ a,p a∧q a):z:=g.elim fun a g=>f a g.1 g.2
variable{β:Type}
theorem A9{p:α→β→Prop}(f:∀ a b,p a b→z)(g:∃ a b,p a b):z:=g.elim fun a g=>g.elim fun b g=>f a b g
variable{s:Prop}
theorem fY(f:p→q→r→s→z)(g:p∧q∧r∧s):z:=f g.1 g.2.1 g.2.2.1 g.2.2.2
theorem fo{p q r:α→Prop}(f:∀ a,p a→q a→r a→z)(g:∃ a,p a∧q a∧r a):z:=g.elim fun a g=>f a g.1 g.2.1 g.2.2
theorem aV{p q:α→β→Prop}(f:∀ a b,p a b→q a b→z)(g:∃ a b,p a b∧q a b):z:=g.elim fun a g=>g.elim fun b g=>f a b g.1 g.2
variable{t:Prop}
theorem EN(f:p→q→r→s→t→z)(g:p∧q∧r∧s∧t):z:=f g.1 g.2.1 g.2.2.1 g.2.2.2.1 g.2.2.2.2
theorem yD{p q r s:α→Prop}(f:∀ a,p a→q a→r a→s a→z)(g:∃ a,p a∧q a∧r a∧s a):z:=g.elim fun a g=>f a g.1 g.2.1 g.2.2.1 g.2.2.2
theorem ee{p q r:α→β→Prop}(f:∀ a b,p a b→q a b→r a b→z)(g:∃ a b,p a b∧q a b∧r a b):z:=g.elim fun a g=>g.elim fun b g=>f a b g.1 g.2.1 g.2.2
variable{γ:Type}
theorem uw{p q:α→β→γ→Prop}(f:∀ a b c,p a b c→q a b c→z)(g:∃ a b c,p a b c∧q a b c):z:=g.elim fun a g=>g.elim fun b g=>g.elim fun c g=>f a b c g.1 g.2
theorem EO{p q r s t:α→Prop}(f:∀ a,p a→q a→r a→s a→t a→z)(g:∃ a,p a∧q a∧r a∧s a∧t a):z:=g.elim fun a g=>f a g.1 g.2.1 g.2.2.1 g.2.2.2.1 g.2.2.2.2
theorem EP{p q r s:α→β→Prop}(f:∀ a b,p a b→q a b→r a b→s a b→z)(g:∃ a b,p a b∧q a b∧r a b∧s a b):z:=g.elim fun a g=>g.elim fun b g=>f a b g.1 g.2.1 g.2.2.1 g.2.2.2
theorem EQ{p q r:α→β→γ→Prop}(f:∀ a b c,p a b c→q a b c→r a b c→z)(g:∃ a b c,p a b c∧q a b c∧r a b c):z:=g.elim fun a g=>g.elim fun b g=>g.elim fun c g=>f a b c g.1 g.2.1 g.2.2
variable{δ:Type}
theorem DD{p q:α→β→γ→δ→Prop}(f:∀ a b c d,p a b c d→q a b c d→z)(g:∃ a b c d,p a b c d∧q a b c d):z:=g.elim fun a g=>g.elim fun b g=>g.elim fun c g=>g.elim fun d g=>f a b c d g.1 g.2
variable{u v:Prop}
theorem DC(f:p→q→r→s→t→u→v→z)(g:p∧q∧r∧s∧t∧u∧v):z:=f g.1 g.2.1 g.2.2.1 g.2.2.2.1 g.2.2.2.2.1 g.2.2.2.2.2.1 g.2.2.2.2.2.2
theorem Ba{p q r s:α→β→γ→Prop}(f:∀ a b c,p a b c→q a b c→r a b c→s a b c→z)(g:∃ a b c,p a b c∧q a b c∧r a b c∧s a b c):z:=g.elim fun a g=>g.elim fun b g=>g.elim fun c g=>f a b c g.1 g.2.1 g.2.2.1 g.2.2.2
theorem A8{w:Prop}(f:p→q→r→s→t→u→v→w→z)(g:p∧q∧r∧s∧t∧u∧v∧w):z:=f g.1 g.2.1 g.2.2.1 g.2.2.2.1 g.2.2.2.2.1 g.2.2.2.2.2.1 g.2.2.2.2.2.2.1 g.2.2.2.2.2.2.2
theorem ER{p q r s t:α→β→γ→Prop}(f:∀ a b c,p a b c→q a b c→r a b c→s a b c→t a b c→z)(g:∃ a b c,p a b c∧q a b c∧r a b c∧s a b c∧t a b c):z:=g.elim fun a g=>g.elim fun b g=>g.elim fun c g=>f a b c g.1 g.2.1 g.2.2.1 g.2.2.2.1 g.2.2.2.2
theorem DE{p q r s:α→β→γ→δ→Prop}(f:∀ a b c d,p a b c d→q a b c d→r a b c d→s a b c d→z)(g:∃ a b c d,p a b c d∧q a b c d∧r a b c d∧s a b c d):z:=g.elim fun a g=>g.elim fun b g=>g.elim fun c g=>g.elim fun d g=>f a b c d g.1 g.2.1 g.2.2.1 g.2.2.2
theorem ES{ε:Type}{p q r:α→β→γ→δ→ε→Prop}(f:∀ a b c d e,p a b c d e→q a b c d e→r a b c d e→z)(g:∃ a b c d e,p a b c d e∧q a b c d e∧r a b c d e):z:=g.elim fun a g=>g.elim fun b g=>g.elim fun c g=>g.elim fun d g=>g.elim fun e g=>f a b c d e g.1 g.2.1 g.2.2
noncomputable abbrev br:Arguments:={posonlyargs:=[],args:=[],vararg:=none,kwonlyargs:=[],kw_defaults:=[],kwarg:=none,defaults:=[]}
noncomputable abbrev cP:Addr:=348
noncomputable abbrev pw:Program:=PySem.Challenge.pw_tc0090_01
@[irreducible] noncomputable def av(i:Nat):List Stmt:=match pw.main.body[i]? with
 | some (PySem.Stmt.FunctionDef _ _ b ..)=>b
 | _=>[]
noncomputable def aj(i:Nat):Scope:=match pw.main.body[i]? with
 | some (PySem.Stmt.FunctionDef _ _ _ _ _ _ sc ..)=>sc
 | _=>⟨.function,[],false,false,[]⟩
@[irreducible] noncomputable def og(i:Nat):List Stmt:=match pw.main.body[i]? with
 | some (PySem.Stmt.ClassDef _ _ _ b ..)=>b
 | _=>[]
@[irreducible] noncomputable def dw(i j:Nat):List Stmt:=match (og i)[j]? with
 | some (PySem.Stmt.FunctionDef _ _ b ..)=>b
 | _=>[]
noncomputable def bT(i j:Nat):Scope:=match (og i)[j]? with
 | some (PySem.Stmt.FunctionDef _ _ _ _ _ _ sc ..)=>sc
 | _=>⟨.function,[],false,false,[]⟩
@[irreducible] noncomputable def vQ(i:Nat):Arguments:=match pw.main.body[i]? with
 | some (PySem.Stmt.FunctionDef _ a ..)=>a
 | _=>br
@[irreducible] noncomputable def yl(i j:Nat):Arguments:=match (og i)[j]? with
 | some (PySem.Stmt.FunctionDef _ a ..)=>a
 | _=>br
noncomputable def Ff(n q:Str)(ps:Arguments)(b:List Stmt)(sc:Scope)(df:Value)(md cd:Value):FuncData:={name:=n,qualname:=q,params:=ps,body:=.stmts b,scope:=sc,globals:=3,closure:=[],defaults:=df,kwdefaults:=.none,pyModule:=md,code:=cd}
noncomputable def fF:Str:=(Str.ofString "/claim/cut.py")
noncomputable def sV(s:String)(t:Nat):Value:=.str (Str.ofString s) t
noncomputable def dS(P:Params)(k:String)(t:Nat)(v:Value):DictEntry:=⟨PyData.keyHash P (Str.ofString k),.str (Str.ofString k) t,v⟩
noncomputable def iT(l:List Int):Obj:={cls:=.type "tuple",data:=.seq (l.map fun i=>Value.int i 0).toArray 0}
noncomputable def uO(f:FuncData):Obj:={cls:=.type "function",data:=.func f}
noncomputable def cO(n q:String)(t ln ac a3 fl r:Nat)(k:Bool)(x:Nat):Obj:={cls:=.type "code",data:=.fields #[.str (Str.ofString n) t,.str (Str.ofString q) (t+1),.str fF (t+2),.int (.ofNat ln) 0,.int (.ofNat ac) 0,.int 0 0,.int (.ofNat a3) 0,.int (.ofNat fl) 0,.ref r,.bool true,.int 276 0,.ref (r+1),.none,bif k then .ref (r+2) else .none,bif k then .ref (r+3) else .none,.ref (bif k then r+4 else r+2),.int (.ofNat x) 0,.int (.ofNat ln) 0,.str fF (x+1)]}
noncomputable def fO(n q:String)(i:Nat)(df md cd:Value):FuncData:=Ff (Str.ofString n) (Str.ofString q) (vQ i) (av i) (aj i) df md cd
noncomputable def mO(n q:String)(i j:Nat)(df md cd:Value):FuncData:=Ff (Str.ofString n) (Str.ofString q) (yl i j) (dw i j) (bT i j) df md cd
noncomputable def zC:Value:=sV "cpy313.xml.etree.ElementTree" 289
noncomputable def wt:Value:=sV "law_tc0090_01" 718
noncomputable def DW:Value:=sV "cpy313.tabnanny" 353
noncomputable def BD:Value:=sV "cpy313.wsgiref.headers" 455
noncomputable def o2(P:Params):Obj:={cls:=.none,data:=.dict #[dS P "\x69mport.loaded._sre" 183 (.bool true),dS P "class._frozen_\x69mportlib.BuiltinImporter" 185 (.ref 14),dS P "watched.\x69mport" 206 (.ref 18),dS P "class._frozen_\x69mportlib.ModuleSpec" 216 (.ref 22),dS P "sys.modules.booked-epoch" 245 (.int 3 0),dS P "\x69mport.later-laid._sre" 270 (.bool true),dS P "watched.library" 272 (.ref 27),dS P "watched.library-objects" 0 (sV "\x0c" 0),dS P "watched.library-deep._sre" 273 (sV "\x04\x00\x00\x0b\x04\x00\x00\x0b\x04\x00\x00\x03\x04\x00\x00\x0b\x08\x04dict\x02" 0)] 9}
noncomputable def o3(P:Params):Obj:={cls:=.type "dict",data:=.dict #[dS P "__name__" 165 (sV "law_tc0090_01" 718),dS P "__doc__" 166 (.none),dS P "__package__" 167 (.none),dS P "__loader__" 168 (.builtin "__main__.__loader__#opaque"),dS P "__spec__" 169 (.none),dS P "__annotations__" 170 (.ref 6),dS P "__builtins__" 171 (.ref 4),dS P "__file__" 173 (.str fF 172),dS P "__cached__" 174 (.none),dS P "_sre" 275 (.ref 12),dS P "_wall" 288 (.ref 38),dS P "SubElement" 301 (.ref 47),dS P "_serialize_text" 310 (.ref 54),dS P "_raise_serialization_error" 317 (.ref 61),dS P "_escape_cdata" 324 (.ref 68),dS P "_escape_attrib" 331 (.ref 75),dS P "_escape_attrib_html" 338 (.ref 82),dS P "_escape_cdata_c14n" 345 (.ref 89),dS P "_escape_attrib_c14n" 352 (.ref 96),dS P "Whitespace" 454 (.ref 158),dS P "tspecials" 490 (.ref 167),dS P "_name_disallowed_re" 516 (.ref 172),dS P "_value_disallowed_re" 550 (.ref 177),dS P "_formatparam" 560 (.ref 185),dS P "Headers" 717 (.ref 306),dS P "_law_spelled" 725 (.ref 315),dS P "_law_text" 736 (.ref 322),dS P "_law_column" 746 (.ref 329),dS P "_law_leads" 752 (.ref 334),dS P "_law_hung" 758 (.ref 339),dS P "_law_laid" 774 (.ref 346),dS P "_law_make" 785 (.ref 353),dS P "_law_grow" 798 (.ref 360),dS P "_law_written" 806 (.ref 367),dS P "_law_page" 812 (.ref 372),dS P "law" 818 (.ref 377)] 36}
noncomputable def o4:Obj:={cls:=.type "module",dict:=some 0,data:=.plain}
noncomputable def EH(P:Params):Obj:={cls:=.type "dict",data:=.dict #[dS P "__module__" 362 (sV "cpy313.tabnanny" 353),dS P "__firstlineno__" 366 (.int 90 365),dS P "S" 370 (sV " " 368),dS P "T" 371 (sV "\x09" 369),dS P "__init__" 386 (.ref 113),dS P "longest_run_of_spaces" 395 (.ref 120),dS P "indent_level" 407 (.ref 127),dS P "equal" 415 (.ref 134),dS P "not_equal_witness" 423 (.ref 141),dS P "less" 433 (.ref 148),dS P "not_less_witness" 441 (.ref 155),dS P "__static_attributes__" 447 (.ref 156),dS P "__dict__" 449 (.ref 159),dS P "__weakref__" 451 (.ref 160),dS P "__doc__" 452 (.none)] 4}
noncomputable def EI:Obj:={cls:=.type "type",data:=.cls {name:=(Str.ofString "Whitespace"),bases:=[.type "object"],mro:=[.ref 158,.type "object"],ns:=157,qualname:=(Str.ofString "Whitespace"),hasDict:=true,slotNames:=[],subclasses:=[],abstract:=false,collection:=none,hasDel:=false},slots:= #[none,none,some (sV "Whitespace" 355),some (sV "Whitespace" 363),some (.builtin "object.__new__"),some (.bool true)]}
noncomputable def C1:Obj:={cls:=.type "re.Pattern",data:=.fields #[sV "[\\x00-\\x1F\\x7F]" 492,.int 32 515,.int 0 0,.none,.none,.ref 171,.int 0 0]}
noncomputable def C3:Obj:={cls:=.type "re.Pattern",data:=.fields #[sV "[\\x00-\\x08\\x0A-\\x1F\\x7F]" 518,.int 32 549,.int 0 0,.none,.none,.ref 176,.int 0 0]}
noncomputable def EL(P:Params):Obj:={cls:=.type "dict",data:=.dict #[dS P "__module__" 568 (sV "cpy313.wsgiref.headers" 455),dS P "__firstlineno__" 572 (.int 159 571),dS P "__init__" 582 (.ref 200),dS P "_convert_string_type" 592 (.ref 207),dS P "__len__" 599 (.ref 214),dS P "__setitem__" 608 (.ref 221),dS P "__delitem__" 614 (.ref 226),dS P "__getitem__" 622 (.ref 233),dS P "__contains__" 630 (.ref 240),dS P "get_all" 636 (.ref 245),dS P "get" 647 (.ref 253),dS P "keys" 653 (.ref 258),dS P "values" 659 (.ref 263),dS P "items" 666 (.ref 270),dS P "__repr__" 673 (.ref 277),dS P "__str__" 679 (.ref 282),dS P "__bytes__" 686 (.ref 289),dS P "setdefault" 695 (.ref 296),dS P "add_header" 708 (.ref 303),dS P "__static_attributes__" 710 (.ref 304),dS P "__dict__" 712 (.ref 307),dS P "__weakref__" 714 (.ref 308),dS P "__doc__" 715 (.none)] 4}
noncomputable def EM:Obj:={cls:=.type "type",data:=.cls {name:=(Str.ofString "Headers"),bases:=[.type "object"],mro:=[.ref 306,.type "object"],ns:=305,qualname:=(Str.ofString "Headers"),hasDict:=true,slotNames:=[],subclasses:=[],abstract:=false,collection:=none,hasDel:=false},slots:= #[none,none,some (sV "Headers" 561),some (sV "Headers" 569),some (.builtin "object.__new__"),some (.bool true)]}
noncomputable def C0:Obj:=iT [14,10,4,1,1,22,0,31,16,127,0,13,7,22,0,31,16,127,0,1]
noncomputable def C2:Obj:=iT [14,14,4,1,1,9,4294966783,0,0,2147483648,0,0,0,0,0,13,11,9,4294966783,0,0,2147483648,0,0,0,0,0,1]
noncomputable def B9:FuncData:=fO "SubElement" "SubElement" 3 (.ref 40) zC (.ref 46)
noncomputable def Fi:Obj:=uO B9
noncomputable def Fh:Obj:=cO "SubElement" "SubElement" 291 6 3 0 11 41 true 299
noncomputable def FQ:Obj:={cls:=.type "tuple",data:=.seq #[.ref 39] 0}
noncomputable def Ca:FuncData:=fO "_serialize_text" "_serialize_text" 4 (.none) zC (.ref 53)
noncomputable def Fk:Obj:=uO Ca
noncomputable def Fj:Obj:=cO "_serialize_text" "_serialize_text" 302 11 2 0 3 48 true 308
noncomputable def Cb:FuncData:=fO "_raise_serialization_error" "_raise_serialization_error" 5 (.none) zC (.ref 60)
noncomputable def Fn:Obj:=uO Cb
noncomputable def Fm:Obj:=cO "_raise_serialization_error" "_raise_serialization_error" 311 16 1 0 3 55 true 315
noncomputable def Cc:FuncData:=fO "_escape_cdata" "_escape_cdata" 6 (.none) zC (.ref 67)
noncomputable def Fq:Obj:=uO Cc
noncomputable def Fo:Obj:=cO "_escape_cdata" "_escape_cdata" 318 18 1 0 3 62 true 322
noncomputable def Cd:FuncData:=fO "_escape_attrib" "_escape_attrib" 7 (.none) zC (.ref 74)
noncomputable def Ft:Obj:=uO Cd
noncomputable def Fs:Obj:=cO "_escape_attrib" "_escape_attrib" 325 29 1 0 3 69 true 329
noncomputable def Ce:FuncData:=fO "_escape_attrib_html" "_escape_attrib_html" 8 (.none) zC (.ref 81)
noncomputable def Fv:Obj:=uO Ce
noncomputable def Fu:Obj:=cO "_escape_attrib_html" "_escape_attrib_html" 332 48 1 0 3 76 true 336
noncomputable def Cf:FuncData:=fO "_escape_cdata_c14n" "_escape_cdata_c14n" 9 (.none) zC (.ref 88)
noncomputable def Fx:Obj:=uO Cf
noncomputable def Fw:Obj:=cO "_escape_cdata_c14n" "_escape_cdata_c14n" 339 59 1 0 3 83 true 343
noncomputable def Cg:FuncData:=fO "_escape_attrib_c14n" "_escape_attrib_c14n" 10 (.none) zC (.ref 95)
noncomputable def FA:Obj:=uO Cg
noncomputable def Fy:Obj:=cO "_escape_attrib_c14n" "_escape_attrib_c14n" 346 72 1 0 3 90 true 350
noncomputable def zn:FuncData:=fO "_law_spelled" "_law_spelled" 20 (.none) wt (.ref 314)
noncomputable def Dh:Obj:=uO zn
noncomputable def Dg:Obj:=cO "_law_spelled" "_law_spelled" 720 242 2 0 3 311 false 723
noncomputable def zo:FuncData:=fO "_law_text" "_law_text" 21 (.none) wt (.ref 321)
noncomputable def Dj:Obj:=uO zo
noncomputable def Di:Obj:=cO "_law_text" "_law_text" 726 245 2 0 3 316 true 734
noncomputable def zp:FuncData:=fO "_law_column" "_law_column" 22 (.none) wt (.ref 328)
noncomputable def Dl:Obj:=uO zp
noncomputable def Dk:Obj:=cO "_law_column" "_law_column" 737 254 2 0 3 323 true 744
noncomputable def zq:FuncData:=fO "_law_leads" "_law_leads" 23 (.none) wt (.ref 333)
noncomputable def Dn:Obj:=uO zq
noncomputable def Dm:Obj:=cO "_law_leads" "_law_leads" 747 259 1 0 3 330 false 750
noncomputable def zr:FuncData:=fO "_law_hung" "_law_hung" 24 (.none) wt (.ref 338)
noncomputable def Dp:Obj:=uO zr
noncomputable def Do:Obj:=cO "_law_hung" "_law_hung" 753 266 1 0 3 335 false 756
noncomputable def zt:FuncData:=fO "_law_laid" "_law_laid" 25 (.none) wt (.ref 345)
noncomputable def Dr:Obj:=uO zt
noncomputable def Dq:Obj:=cO "_law_laid" "_law_laid" 759 273 6 0 3 340 true 772
noncomputable def vL:FuncData:=fO "_law_make" "_law_make" 26 (.none) wt (.ref 352)
noncomputable def AZ:Obj:=uO vL
noncomputable def ut:Obj:=cO "_law_make" "_law_make" 775 288 2 0 3 347 true 783
noncomputable def zu:FuncData:=fO "_law_grow" "_law_grow" 27 (.none) wt (.ref 359)
noncomputable def Dt:Obj:=uO zu
noncomputable def Ds:Obj:=cO "_law_grow" "_law_grow" 786 297 5 0 3 354 true 796
noncomputable def zv:FuncData:=fO "_law_written" "_law_written" 28 (.none) wt (.ref 366)
noncomputable def Dv:Obj:=uO zv
noncomputable def Du:Obj:=cO "_law_written" "_law_written" 799 304 1 0 3 361 true 804
noncomputable def zw:FuncData:=fO "_law_page" "_law_page" 29 (.none) wt (.ref 371)
noncomputable def Dx:Obj:=uO zw
noncomputable def Dw:Obj:=cO "_law_page" "_law_page" 807 308 4 0 3 368 false 810
noncomputable def zx:FuncData:=fO "law" "law" 30 (.none) wt (.ref 376)
noncomputable def Dz:Obj:=uO zx
noncomputable def Dy:Obj:=cO "law" "law" 813 310 1 0 3 373 false 816
noncomputable def zc:FuncData:=mO "__init__" "Whitespace.__init__" 12 1 (.none) DW (.ref 112)
noncomputable def CT:Obj:=uO zc
noncomputable def CS:Obj:=cO "__init__" "Whitespace.__init__" 372 93 2 0 3 107 true 384
noncomputable def ze:FuncData:=mO "longest_run_of_spaces" "Whitespace.longest_run_of_spaces" 12 2 (.none) DW (.ref 119)
noncomputable def CV:Obj:=uO ze
noncomputable def CU:Obj:=cO "longest_run_of_spaces" "Whitespace.longest_run_of_spaces" 387 116 1 0 3 114 true 393
noncomputable def zf:FuncData:=mO "indent_level" "Whitespace.indent_level" 12 3 (.none) DW (.ref 126)
noncomputable def CX:Obj:=uO zf
noncomputable def CW:Obj:=cO "indent_level" "Whitespace.indent_level" 396 120 2 0 3 121 true 405
noncomputable def zg:FuncData:=mO "less" "Whitespace.less" 12 6 (.none) DW (.ref 147)
noncomputable def CZ:Obj:=uO zg
noncomputable def CY:Obj:=cO "less" "Whitespace.less" 424 133 2 0 3 142 true 431
noncomputable def zh:FuncData:=mO "__init__" "Headers.__init__" 18 0 (.ref 193) BD (.ref 199)
noncomputable def C5:Obj:=uO zh
noncomputable def C4:Obj:=cO "__init__" "Headers.__init__" 573 161 2 0 3 194 true 580
noncomputable def EJ:Obj:={cls:=.type "tuple",data:=.seq #[.none] 0}
noncomputable def zi:FuncData:=mO "_convert_string_type" "Headers._convert_string_type" 18 1 (.none) BD (.ref 206)
noncomputable def C7:Obj:=uO zi
noncomputable def C6:Obj:=cO "_convert_string_type" "Headers._convert_string_type" 583 171 2 1 3 201 true 590
noncomputable def zj:FuncData:=mO "get_all" "Headers.get_all" 18 7 (.none) BD (.ref 244)
noncomputable def C9:Obj:=uO zj
noncomputable def C8:Obj:=cO "get_all" "Headers.get_all" 631 196 2 0 3 241 false 634
noncomputable def zk:FuncData:=mO "get" "Headers.get" 18 8 (.ref 246) BD (.ref 252)
noncomputable def Db:Obj:=uO zk
noncomputable def Da:Obj:=cO "get" "Headers.get" 637 200 3 0 3 247 true 645
noncomputable def EK:Obj:={cls:=.type "tuple",data:=.seq #[.none] 0}
noncomputable def zl:FuncData:=mO "items" "Headers.items" 18 11 (.none) BD (.ref 269)
noncomputable def Dd:Obj:=uO zl
noncomputable def Dc:Obj:=cO "items" "Headers.items" 660 213 1 0 3 264 true 664
noncomputable def zm:FuncData:=mO "add_header" "Headers.add_header" 18 16 (.none) BD (.ref 302)
noncomputable def Df:Obj:=uO zm
noncomputable def De:Obj:=cO "add_header" "Headers.add_header" 696 228 3 0 11 297 true 706
noncomputable def KF(P:Params):Frag:=[(2,o2 P),(3,o3 P),(4,o4),(157,EH P),(158,EI),(172,C1),(177,C3),(305,EL P),(306,EM),(171,C0),(176,C2),(47,Fi),(46,Fh),(40,FQ),(54,Fk),(53,Fj),(61,Fn),(60,Fm),(68,Fq),(67,Fo),(75,Ft),(74,Fs),(82,Fv),(81,Fu),(89,Fx),(88,Fw),(96,FA),(95,Fy),(315,Dh),(314,Dg),(322,Dj),(321,Di),(329,Dl),(328,Dk),(334,Dn),(333,Dm),(339,Dp),(338,Do),(346,Dr),(345,Dq),(353,AZ),(352,ut),(360,Dt),(359,Ds),(367,Dv),(366,Du),(372,Dx),(371,Dw),(377,Dz),(376,Dy),(113,CT),(112,CS),(120,CV),(119,CU),(127,CX),(126,CW),(148,CZ),(147,CY),(200,C5),(199,C4),(193,EJ),(207,C7),(206,C6),(245,C9),(244,C8),(253,Db),(252,Da),(246,EK),(270,Dd),(269,Dc),(303,Df),(302,De)]
noncomputable def yv:List Addr:=[2,3,4,157,158,172,177,305,306,171,176,47,46,40,54,53,61,60,68,67,75,74,82,81,89,88,96,95,315,314,322,321,329,328,334,333,339,338,346,345,353,352,360,359,367,366,372,371,377,376,113,112,120,119,127,126,148,147,200,199,193,207,206,245,244,253,252,246,270,269,303,302]
noncomputable def wV(st:SharedT→Thread→Option (SharedT × Thread))(thr okk:Thread→Bool)(n:Nat):SharedT→Thread→Option SharedT:=
 Nat.rec (fun J J=>none) (fun J ih s t=>match thr t with
  | true=>some s
  | false=>match okk t with
   | false=>none
   | true=>match st s t with
    | some (s',t')=>ih s' t'
    | none=>none) n
theorem s8{tb:String→Option Builtin}{p:Program}{w:World}{n₀:Nat}{ann:Option Value}:∀ (n:Nat) {s s':SharedT} {t:Thread},
  wV (stepT (denote tb) p w) through (stepOk n₀ ann) n s t=some s'→topRun tb p w n₀ ann n s.abs t=some s'.abs
 | 0,_,_,_,h=>nomatch h
 | n+1,s,s',t,h=>by
  replace h:(match through t with
   | true=>some s
   | false=>match stepOk n₀ ann t with
    | false=>none
    | true=>match stepT (denote tb) p w s t with
     | some (s',t')=>wV (stepT (denote tb) p w) through (stepOk n₀ ann) n s' t'
     | none=>none)=some s':=h
  unfold topRun;cases ht:through t with
  | true=>rw[ht] at h;cases h;rfl
  | false=>
   rw[ht] at h;cases hk:stepOk n₀ ann t with
   | false=>rw[hk] at h;cases h
   | true=>
    rw[hk] at h;cases hs:stepT (denote tb) p w s t with
    | none=>rw[hs] at h;cases h
    | some r=>
     obtain⟨s₂,t₂⟩:=r;rw[hs] at h;rw[stepT_spec hs];exact s8 n h
noncomputable def v9(st:SharedT→Thread→Option (SharedT × Thread))(ex:Thread→Option (List Value))(n:Nat):SharedT→Thread→Option SharedT:=
 Nat.rec (fun J J=>none) (fun J ih s t=>match ex t with
  | some []=>some s
  | some (_::_)=>none
  | none=>match st s t with
    | some (s',t')=>ih s' t'
    | none=>none) n
theorem sD{tb:String→Option Builtin}{p:Program}{w:World}:∀ (n:Nat) {s s':SharedT} {t:Thread},
  v9 (stepT (denote tb) p w) Thread.atExitBegin n s t=some s'→importEnds tb p w n s.abs t=some s'.abs
 | 0,_,_,_,h=>nomatch h
 | n+1,s,s',t,h=>by
  replace h:(match t.atExitBegin with
   | some []=>some s
   | some (_::_)=>none
   | none=>match stepT (denote tb) p w s t with
     | some (s',t')=>v9 (stepT (denote tb) p w) Thread.atExitBegin n s' t'
     | none=>none)=some s':=h
  unfold importEnds;cases ht:t.atExitBegin with
  | some l=>
   rw[ht] at h;cases l with
   | nil=>cases h;rfl
   | cons _ _=>cases h
  | none=>
   rw[ht] at h;cases hs:stepT (denote tb) p w s t with
   | none=>rw[hs] at h;cases h
   | some r=>
    obtain⟨s₂,t₂⟩:=r;rw[hs] at h;dsimp only;rw[stepT_spec hs];exact sD n h
noncomputable def ox(m:Str)(s:SharedT):Option SharedT:=
 match boundIn s.abs.heap sysModules m,tameNamesOf? m with
 | some (.ref a),some row=>(match s.abs.heap.get? a with
  | some o=>(match o.dict with
   | some D=>(match Nat.blt D s.n,s.tree.get D with
    | true,some od=>(match alive od with
     | some od1=>(fenceDict? m row od1).map fun od'=>{s with tree:=s.tree.set D fun J=>od'}
     | none=>none)
    | _,_=>none)
   | none=>none)
  | none=>none)
 | _,_=>none
set_option tactic.hygienic true in
theorem tZ{m:Str}{s s':SharedT}(h:ox m s=some s'):fenceModule? m s.abs=some s'.abs:=by
 unfold ox at h;unfold fenceModule?;split at h
 ·rename_i a row h1 h2;rw[h1,h2];dsimp only;split at h
  ·rename_i o ho;rw[ho];dsimp only;split at h
   ·rename_i D hD;rw[hD];dsimp only;split at h
    ·rename_i od hb hg;split at h
     ·rename_i od1 ha;have hlt:D < s.n:=Nat.le_of_ble_eq_true hb;have e:s.abs.heap.get? D=some od1:=(abs_get (life:=s.life) hlt hg).trans ha;rw[e];dsimp only;refine ab (fun od' hf t=>?_) (Option.map_eq_some_iff.mp h);obtain rfl:=t;rw[hf];show some _=some _;congr 1;show Shared.mk _ _ _ _ _=Shared.mk _ _ _ _ _;congr 1;exact(absHeap_set hg).symm
     ·cases h
    ·cases h
   ·cases h
  ·cases h
 ·cases h
structure lq where
 st:Program→World→SharedT→Thread→Option (SharedT × Thread)
 ex:Thread→Option (List Value)
 thr:Thread→Bool
 okk:Nat→Option Value→Thread→Bool
 os:OsState
 t0:Thread
 fence:SharedT→Option SharedT
 stub:Thread
noncomputable def BC(I:lq)(p q:Program)(N:Nat)(w:World):Option (SharedT × SharedT):=
 match v9 (I.st q w) I.ex N ⟨.nil,0,{}, #[],{},1,I.os⟩ I.t0 with
 | none=>none
 | some sE=>match I.fence sE with
  | none=>none
  | some s₀=>match wV (I.st p w) I.thr (I.okk s₀.abs.heap.objs.size (s₀.abs.heap.nsMap mainGlobals "__annotations__")) N s₀ I.stub with
   | none=>none
   | some s₁=>some (s₀,s₁)
noncomputable def lk{α β:Type}(p:Program)(CQ:List Str)(op:Shared→α)(yf:Shared→β)(x:SharedT × SharedT):Bool × Bool × α × β:=
 ((x.1.abs.heap.isNs mainGlobals&&x.1.abs.gens.size==0),(staticsOk CQ x.1.abs.heap x.2.abs.heap&&namesBound p x.2.abs.heap&&gensDone x.2.abs&&laidKept x.1.abs.heap x.2.abs.heap),op x.2.abs,yf x.2.abs)
variable{p q:Program}{w:World}
theorem vV{I:lq}{N:Nat}{x:SharedT × SharedT}(h:BC I p q N w=some x):
  ∃ sE,v9 (I.st q w) I.ex N ⟨.nil,0,{}, #[],{},1,I.os⟩ I.t0=some sE∧I.fence sE=some x.1∧
   wV (I.st p w) I.thr (I.okk x.1.abs.heap.objs.size (x.1.abs.heap.nsMap mainGlobals "__annotations__")) N x.1 I.stub=some x.2:=by
 unfold BC at h;cases e1:v9 (I.st q w) I.ex N ⟨.nil,0,{}, #[],{},1,I.os⟩ I.t0 with
 | none=>rw[e1] at h;cases h
 | some sE=>
  rw[e1] at h;dsimp only at h;cases e2:I.fence sE with
  | none=>rw[e2] at h;cases h
  | some s₀=>
   rw[e2] at h;dsimp only at h;cases e3:wV (I.st p w) I.thr (I.okk s₀.abs.heap.objs.size (s₀.abs.heap.nsMap mainGlobals "__annotations__")) N s₀ I.stub with
   | none=>rw[e3] at h;cases h
   | some s₁=>rw[e3] at h;cases h;exact⟨sE,rfl,e2,e3⟩
theorem yy{N:Nat}{sE s₀ s₁:SharedT}(h1:importEnds treeTable (opening p) w N (start (opening p)).1 (start (opening p)).2=some sE.abs)(h2:fenceModules? p sE.abs=some s₀.abs)(h3:(s₀.abs.heap.isNs mainGlobals&&s₀.abs.gens.size==0)=true)(h4:topRun treeTable p w s₀.abs.heap.objs.size (s₀.abs.heap.nsMap mainGlobals "__annotations__") N s₀.abs (topStub p)=some s₁.abs)(h5:(staticsOk (importedModules p.main.body) s₀.abs.heap s₁.abs.heap&&namesBound p s₁.abs.heap&&gensDone s₁.abs&&laidKept s₀.abs.heap s₁.abs.heap)=true):
  openEnds treeTable p w N=some s₁.abs:=by
 unfold openEnds fencedOpening;rw[h1,Option.bind_some,h2,Option.bind_some];unfold topFrom;rw[h3];dsimp only;rw[h4,Option.bind_some,h5]
variable{loose:List Str}
theorem yi{yf:Shared→α}{ya:α}{N:Nat}{I:lq}{im:List Str}{op:Shared→_}(hI:I.st=(fun p w=>stepT (denote treeTable) p w)∧I.ex=Thread.atExitBegin∧I.thr=through∧I.okk=stepOk∧I.os=(start (opening p)).1.os∧I.t0=(start (opening p)).2∧(∀ s s',I.fence s=some s'→fenceModules? p s.abs=some s'.abs)∧I.stub=topStub p)(hs:(start (opening p)).1=⟨{}, #[],{},1,(start (opening p)).1.os⟩)(him:im=importedModules p.main.body)(hop:op=openSeen q loose (importedModules p.main.body) (fun J=>true) true)(h:(BC I p (opening p) N w).map (lk p im op yf)=some (true,true,openGood q loose,ya)):
  (openEnds treeTable p w N).map (fun s=>(openSeen q loose (importedModules p.main.body) (fun J=>true) true s,yf s))=some (openGood q loose,ya):=by
 subst him hop;refine af (fun q t=>?_) (Option.map_eq_some_iff.mp h);obtain⟨s₀,s₁⟩:=q;revert t;refine am fun hg hl=>?_;refine fo (fun sE g1 g2 g3=>?_) (vV hg)
 revert hI;refine A8 fun i1 i2 i3 i4 i5 i6 i7 i8=>?_
 rw[i1,i2,i5,i6] at g1;rw[i1,i3,i4,i8] at g3;have l1:(s₀.abs.heap.isNs mainGlobals&&s₀.abs.gens.size==0)=true:=congrArg Prod.fst hl;have l2:=congrArg (fun x=>x.2.1) hl;have l3:=congrArg (fun x=>x.2.2) hl;have k1:=sD N g1;have e:(SharedT.abs ⟨.nil,0,{}, #[],{},1,(start (opening p)).1.os⟩)=(start (opening p)).1:=by rw[hs];rfl
 rw[e] at k1;rw[yy k1 (i7 _ _ g2) l1 (s8 N g3) l2];exact congrArg some l3
noncomputable def zz:lq where
 st:=fun p w=>stepT (denote treeTable) p w
 ex:=Thread.atExitBegin
 thr:=through
 okk:=stepOk
 os:=(start (opening pw)).1.os
 t0:=(start (opening pw)).2
 fence:=ox "_sre"
 stub:=topStub pw
noncomputable def jS:lq where
 st:=fun p w=>PySem.W.Fast.tw10156331382660048174 (PySem.W.Fast.tw11892475500146522536 PySem.W.Fast.tw14364793385576792824) p w
 ex:=PySem.W.Fast.tw3805553451399329143
 thr:=through
 okk:=PySem.W.Fast.tw6613529449190102663
 os:=(PySem.W.Fast.tw1435165496053646825 (opening pw)).1.os
 t0:=(PySem.W.Fast.tw1435165496053646825 (opening pw)).2
 fence:=ox "_sre"
 stub:=topStub pw
theorem Cr:zz=jS:=by
 unfold zz jS;rw[PySem.W.Fast.te10156331382660048174,PySem.W.Fast.te11892475500146522536,PySem.W.Fast.te14364793385576792824,PySem.W.Fast.te3805553451399329143,PySem.W.Fast.te6613529449190102663,PySem.W.Fast.te1435165496053646825]
noncomputable def qv:Program:=view pw [30]
noncomputable def d9:List Str:=["_sre","_wall","SubElement","_serialize_text","_raise_serialization_error","_escape_cdata","_escape_attrib","_escape_attrib_html","_escape_cdata_c14n","_escape_attrib_c14n","Whitespace","tspecials","_name_disallowed_re","_value_disallowed_re","_formatparam","Headers","_law_spelled","_law_text","_law_column","_law_leads","_law_hung","_law_laid","_law_make","_law_grow","_law_written","_law_page"]
noncomputable abbrev E6:Type:=List (Option Obj) × Option Obj × Bool
noncomputable def Yf(s:Shared):E6:=(yv.map s.heap.get?,s.heap.get? cP,(List.range 378).all fun a=>(s.heap.get? a).isSome)
noncomputable def Ya(w:World):E6:=((KF w.params).map (fun p=>some p.2),some {cls:=.none,data:=.fields #[]},true)
noncomputable abbrev CQ:List Str:=importedModules pw.main.body
theorem AR(w:World):(BC jS pw (opening pw) 5000 (w.withFollow "special-get-raises" false)).map (lk pw (PySem.W.Fast.tw5923862056798008813 pw.main.body) (PySem.W.Fast.tw4187177175401517315 qv d9 (PySem.W.Fast.tw5923862056798008813 pw.main.body) (fun J=>true) true) Yf)=some (true,true,openGood qv d9,Ya w):=by kernel_rfl
theorem AS(w:World):(BC jS pw (opening pw) 5000 (w.withFollow "special-get-raises" true)).map (lk pw (PySem.W.Fast.tw5923862056798008813 pw.main.body) (PySem.W.Fast.tw4187177175401517315 qv d9 (PySem.W.Fast.tw5923862056798008813 pw.main.body) (fun J=>true) true) Yf)=some (true,true,openGood qv d9,Ya w):=by kernel_rfl
theorem looks(b:Bool)(w:World):(BC jS pw (opening pw) 5000 (w.withFollow "special-get-raises" b)).map (lk pw (PySem.W.Fast.tw5923862056798008813 pw.main.body) (PySem.W.Fast.tw4187177175401517315 qv d9 (PySem.W.Fast.tw5923862056798008813 pw.main.body) (fun J=>true) true) Yf)=some (true,true,openGood qv d9,Ya w):=by cases b;exact AR w;exact AS w
theorem ws:PySem.Challenge.rw_tc0090_01.wellSaid=true:=(congrFun PySem.W.Fast.te9446332074065402090 _).trans ⋯
variable{s s':Shared}
theorem t7(h:fenceModule? "_sre" s=some s'):fenceModules? pw s=some s':=by
 have e:importedModules pw.main.body=(["_sre"]:List Str):=by kernel_rfl
 have e2:pw.main.body.any namesNumpy=false:=by kernel_rfl
 unfold fenceModules?;rw[e,e2];simp only[fenceAll?,h,Option.bind_some];rfl
theorem x9:jS.st=(fun p w=>stepT (denote treeTable) p w)∧jS.ex=Thread.atExitBegin∧jS.thr=through∧jS.okk=stepOk∧jS.os=(start (opening pw)).1.os∧jS.t0=(start (opening pw)).2∧(∀ s s',jS.fence s=some s'→fenceModules? pw s.abs=some s'.abs)∧jS.stub=topStub pw:=by
 rw[←Cr];exact⟨rfl,rfl,rfl,rfl,rfl,rfl,fun s s' h=>t7 (tZ h),rfl⟩
theorem zB(b:Bool)(w:World):(openEnds treeTable pw (w.withFollow "special-get-raises" b) 5000).map (fun s=>(openSeen qv d9 (importedModules pw.main.body) (fun J=>true) true s,Yf s))=some (openGood qv d9,Ya w):=
 yi x9 rfl (congrFun PySem.W.Fast.te5923862056798008813.symm _) (by rw[←PySem.W.Fast.te5923862056798008813,←PySem.W.Fast.te4187177175401517315]) (looks b w)
theorem left:LeftO pw qv d9 (fun J=>true) Yf Ya 5000:=
 byRow2 "special-get-raises" (zB false) (zB true)
noncomputable def q9:DefRec:=match pw.main.body[30]? with
 | some (PySem.Stmt.FunctionDef n a b _ _ _ sc _ _ pos)=>⟨n,a,b,sc,pos⟩
 | _=>⟨"law",⟨[],[],none,[],[],none,[]⟩,[],⟨.function,[],false,false,[]⟩,⟨0,0,0,0⟩⟩
theorem Ek(call:WalkX qv d9 (fun J J=>True) Yf Ya PySem.Challenge.rw_tc0090_01.row.toRowW q9 [] fun f vs=>PySem.call f vs):PySem.Challenge.rw_tc0090_01.Holds:=by
 refine holds_law ws fun said=>?_;refine holds_openX (q:=qv) (loose:=d9) (Xt:=fun J=>true) (XP:=fun J J=>True) (Yf:=Yf) (Ya:=Ya) (N:=5000) (d:=q9) (kwd:=[]) left (fun J J=>trivial) (fun J J J J J=>trivial) ?_ ?_ ?_ (fun s J=>recFacts_of (s:=s) rfl) rfl said ?_ ⟨rfl,rfl,rfl,rfl,rfl,by walk_at "k"⟩ ?_ call
 ·kernel_rfl
 ·kernel_rfl
 ·kernel_rfl
 ·kernel_rfl
 ·w_on
  w_witness2
theorem ns{a:α}{C:Prop}(e:none=some a):C:=nomatch e
theorem sn{a:α}{C:Prop}(e:some a=none):C:=nomatch e
theorem ft{C:Prop}(e:false=true):C:=nomatch e
theorem tf{C:Prop}(e:true=false):C:=nomatch e
inductive V where
 | none | bool (b:Bool) | int (i:Int) | str (s:Str) | bi (id:String) | ty (n:String) | gl (a:Nat)
 | tup (l:List V) | lst (l:List V) | dct (ks:List Str) (vs:List V) | ob (r:Nat)
 | fin (C:Nat) (ks:List Str) (vs:List V) | thg (ks:List Str) (vs:List V) | bm (id:String) (x:V) | slc (lo hi st:Option Int)
 | clo (fd:FuncData) (ns:List Str) (l:List V) | ins (C:Nat) (r:Nat) | exc (cls:String) (args:List V)
 deriving Inhabited
inductive Ob where
 | l (l:List V) | d (ks:List Str) (vs:List V) | n (ks:List Str) (vs:List V) | f (r:Option Nat)
 deriving Inhabited
noncomputable abbrev Hp:=List Ob
noncomputable abbrev ai:=List (Str × V)
theorem mU{p:α→Prop}:∀ x∈([]:List α),p x:=fun J h=>nomatch h
theorem bQ{p:α→Prop}{a:α}{l:List α}(h:p a)(t:∀ x∈l,p x):∀ x∈a::l,p x:=List.forall_mem_cons.mpr ⟨h,t⟩
variable{P:Nat→Prop}{n:Nat}
theorem nS(t:∀ i,i < n→P i)(h:P n):∀ i,i < n+1→P i:=fun i hi=>(Nat.lt_succ_iff_lt_or_eq.mp hi).elim (t i) fun e=>e▸h
@[elab_as_elim] theorem n3(h0:P 0)(h1:P 1)(h2:P 2):∀ i,i < 3→P i:=nS (nS (nS (fun J h=>absurd h (Nat.not_lt_zero _)) h0) h1) h2
@[elab_as_elim] theorem n4(h0:P 0)(h1:P 1)(h2:P 2)(h3:P 3):∀ i,i < 4→P i:=nS (n3 h0 h1 h2) h3
@[elab_as_elim] theorem n5(h0:P 0)(h1:P 1)(h2:P 2)(h3:P 3)(h4:P 4):∀ i,i < 5→P i:=nS (n4 h0 h1 h2 h3) h4
@[elab_as_elim] theorem n6(h0:P 0)(h1:P 1)(h2:P 2)(h3:P 3)(h4:P 4)(h5:P 5):∀ i,i≤5→P i:=fun i h=>nS (n5 h0 h1 h2 h3 h4) h5 i (Nat.lt_succ_of_le h)
@[elab_as_elim] theorem ED(h1:P 1)(h2:P 2)(h3:P 3)(h4:P 4)(h5:P 5)(i:Nat)(q:1≤i)(h:i≤5):P i:=n6 (P:=fun i=>1≤i→P i) (fun q=>absurd q (by decide)) (fun J=>h1) (fun J=>h2) (fun J=>h3) (fun J=>h4) (fun J=>h5) i h q
theorem EE(n:Nat):(-1+(n:Int)).toNat=n - 1:=(congrArg Int.toNat (Int.add_comm _ _)).trans (Int.toNat_sub n 1)
theorem FS{H l:List α}{a:α}:(H++a::l)[H.length]? =some a:=by rw[List.getElem?_append_right (Nat.le_refl _),Nat.sub_self];rfl
theorem FB{H l:List α}{a b:α}:(H++a::b::l)[H.length+1]? =some b:=by rw[List.getElem?_append_right (Nat.le_add_right _ _),Nat.add_sub_cancel_left];rfl
theorem DX{H l:List α}{a b c:α}:(H++a::b::c::l)[H.length+2]? =some c:=by rw[List.getElem?_append_right (Nat.le_add_right _ _),Nat.add_sub_cancel_left];rfl
structure Fz(σ Z:List Addr)(a:Addr):Prop where
 lo:378≤a
 ns:a∉σ
 nz:a∉Z
noncomputable def lr:List DictEntry→List Str→List Value→Prop
 | [],[],[]=>True
 | e::es,k::ks,v::vs=>Value.isStrOf k e.key=true∧e.val=v∧lr es ks vs
 | _,_,_=>False
inductive cZ (P:Params) (h:Heap) (a:Addr) (ks:List Str) (vs:List Value):Prop
 | mk (o:Obj) (es:Array DictEntry) (n:Nat):h.get? a=some o→o.ExactDict→o.data=.dict es n→(∀ e∈es,∃ k,Value.isStrOf k e.key=true∧e.hash=PyData.keyHash P k)→lr es.toList ks vs→ks.Nodup→cZ P h a ks vs
noncomputable def xh(h:Heap)(a:Addr)(ks:List Str)(vs:List Value):Prop:=ks.length=vs.length∧h.Ns1 a fun x=>(ks.zip vs).lookup x
noncomputable def aO:Str:="_law_make.<locals>.<lambda>"
inductive gB (h:Heap) (σ Z:List Addr) (cv:Value):Prop
 | mk (c:Addr) (oc:Obj) (vs:Array Value) (t:Tok):cv=.ref c→Fz σ Z c→h.get? c=some oc→oc.data=.fields vs→vs[1]? =some (.str aO t)→gB h σ Z cv
noncomputable def zK(o:Obj)(C d:Addr):Prop:=o.cls=.ref C∧(∀ c,o.data≠ .cls c)∧o.dict=some d
inductive zO (σ Z:List Addr) (I:Addr→Array Value→Prop) (R:List Value→Prop) (v:Value):Prop
 | mk (a:Addr) (vs:Array Value):v=.ref a→Fz σ Z a→I a vs→R vs.toList→zO σ Z I R v
inductive BG (P:Params) (h:Heap) (σ Z:List Addr) (ks:List Str) (R:List Value→Prop) (v:Value):Prop
 | mk (a:Addr) (vs:List Value):v=.ref a→Fz σ Z a→cZ P h a ks vs→R vs→BG P h σ Z ks R v
inductive BJ (h:Heap) (σ Z:List Addr) (C:Nat) (ks:List Str) (R:List Value→Prop) (v:Value):Prop
 | mk (a d:Addr) (vs:List Value) (o:Obj):v=.ref a→Fz σ Z a→Fz σ Z d→h.get? a=some o→zK o C d→d≠a→xh h d ks vs→R vs→BJ h σ Z C ks R v
inductive BO (h:Heap) (σ Z:List Addr) (ks:List Str) (R:List Value→Prop) (v:Value):Prop
 | mk (a d:Addr) (vs:List Value) (o:Obj) (fd:FuncData):v=.ref a→Fz σ Z a→Fz σ Z d→h.get? a=some o→o.cls=.type "function"→o.dict=some d→o.data=.func fd→xh h d ks vs→R vs→BO h σ Z ks R v
inductive EY (h:Heap) (σ Z:List Addr) (id:String) (R:Value→Prop) (v:Value):Prop
 | mk (a:Addr) (y:Value):v=.ref a→Fz σ Z a→h.get? a=some {cls:=.type "builtin_function_or_method",data:=.fields #[.builtin id,y]}→R y→EY h σ Z id R v
inductive BM (h:Heap) (σ Z:List Addr) (lo hi st:Option Int) (v:Value):Prop
 | mk (a:Addr) (vl vu vs:Value):v=.ref a→Fz σ Z a→h.IsSliceOf a vl vu vs→IsPart vl lo→IsPart vu hi→IsPart vs st→BM h σ Z lo hi st v
inductive BE (h:Heap) (σ Z:List Addr) (fd0:FuncData) (ns:List Str) (R:List Value→Prop) (v:Value):Prop
 | mk (a:Addr) (o:Obj) (fd:FuncData) (cs:List Addr) (vs:List Value):v=.ref a→Fz σ Z a→h.get? a=some o→o.cls=.type "function"→o.dict=Option.none→o.data=.func fd→{fd with closure:=[],closureTuple:=.none,code:=.none}=fd0→fd.closure=ns.zip cs→ns.length=cs.length→cs.length=vs.length→
   (∀ (i:Nat) c x,cs[i]? =some c→vs[i]? =some x→Fz σ Z c∧h.IsCell c (some x))→gB h σ Z fd.code→R vs→BE h σ Z fd0 ns R v
inductive BL (h:Heap) (σ Z:List Addr) (C:Nat) (r:Nat) (v:Value):Prop
 | mk (a d:Addr) (o:Obj):v=.ref a→Fz σ Z a→h.get? a=some o→zK o C d→d≠a→σ[r]? =some d→BL h σ Z C r v
inductive BI (h:Heap) (σ Z:List Addr) (cls:String) (R:List Value→Prop) (v:Value):Prop
 | mk (a:Addr) (o:Obj) (fs:Array Value) (t:Addr) (vs:Array Value):v=.ref a→Fz σ Z a→h.get? a=some o→o.cls=.type cls→o.data=.fields fs→fs[0]? =some (.ref t)→Fz σ Z t→h.IsTuple t vs→R vs.toList→BI h σ Z cls R v
inductive E5 (σ:List Addr) (r:Nat) (v:Value):Prop
 | mk (a:Addr):v=.ref a→σ[r]? =some a→E5 σ r v
mutual
noncomputable def VR(P:Params)(h:Heap)(σ Z:List Addr):V→Value→Prop
 | .none,v=>v=.none
 | .bool b,v=>v=.bool b
 | .int i,v=>∃ t,v=.int i t
 | .str s,v=>∃ t,v=.str s t
 | .bi id,v=>v=.builtin id
 | .ty n,v=>v=.type n
 | .gl a,v=>v=.ref a
 | .tup l,v=>zO σ Z h.IsTuple (ak P h σ Z l) v
 | .lst l,v=>zO σ Z h.PlainList (ak P h σ Z l) v
 | .dct ks l,v=>BG P h σ Z ks (ak P h σ Z l) v
 | .ob r,v=>E5 σ r v
 | .fin C ks l,v=>BJ h σ Z C ks (ak P h σ Z l) v
 | .thg ks l,v=>BO h σ Z ks (ak P h σ Z l) v
 | .bm id x,v=>EY h σ Z id (VR P h σ Z x) v
 | .slc lo hi st,v=>BM h σ Z lo hi st v
 | .clo fd0 ns l,v=>BE h σ Z fd0 ns (ak P h σ Z l) v
 | .ins C r,v=>BL h σ Z C r v
 | .exc cls l,v=>BI h σ Z cls (ak P h σ Z l) v
noncomputable def ak(P:Params)(h:Heap)(σ Z:List Addr):List V→List Value→Prop
 | [],vs=>vs=[]
 | x::l,vs=>∃ v r,vs=v::r∧VR P h σ Z x v∧ak P h σ Z l r
end
variable{P:Params}{h h':Heap}{a:Addr}{ks:List Str}{vs:List Value}
theorem cZ.at'(x:cZ P h a ks vs)(k:∀ o,h.get? a=some o→h'.get? a=some o):cZ P h' a ks vs:=
 by obtain⟨o,es,n,e,r1,r2,r3,r4,r5⟩:=x;exact⟨o,es,n,k o e,r1,r2,r3,r4,r5⟩
theorem cZ.ex(x:cZ P h a ks vs):∃ o,h.get? a=some o:=
 by obtain⟨o,_,_,e,_,_,_,_,_⟩:=x;exact⟨o,e⟩
theorem xh.at'(x:xh h a ks vs)(k:∀ o,h.get? a=some o→h'.get? a=some o):xh h' a ks vs:=⟨x.1,x.2.at k⟩
theorem xh.ex(x:xh h a ks vs):∃ o,h.get? a=some o:=by obtain⟨_,o,_,_,e,_⟩:=x;exact⟨o,e⟩
mutual
theorem VR.tr{P:Params}{h h':Heap}{σ Z σ' Z':List Addr}(hf:∀ a o,Fz σ Z a→h.get? a=some o→h'.get? a=some o∧Fz σ' Z' a)(hs:∀ (r:Nat) a,σ[r]? =some a→σ'[r]? =some a):
  ∀ (x:V) {v:Value},VR P h σ Z x v→VR P h' σ' Z' x v
 | .none,_,q | .bool _,_,q | .int _,_,q | .str _,_,q | .bi _,_,q | .ty _,_,q | .gl _,_,q=>by exact q
 | .tup l,_,q=>by obtain⟨a,vs,e,f,⟨o,ho,r⟩,hl⟩:=q;exact⟨a,vs,e,(hf a o f ho).2,⟨o,(hf a o f ho).1,r⟩,ak.tr hf hs l hl⟩
 | .lst l,_,q=>by obtain⟨a,vs,e,f,⟨n,ho⟩,hl⟩:=q;exact⟨a,vs,e,(hf a _ f ho).2,⟨n,(hf a _ f ho).1⟩,ak.tr hf hs l hl⟩
 | .dct ks l,_,q=>by obtain⟨a,vs,e,f,r,hl⟩:=q;obtain⟨o,ho⟩:=r.ex;exact⟨a,vs,e,(hf a o f ho).2,r.at' fun o e=>(hf a o f e).1,ak.tr hf hs l hl⟩
 | .ob r,_,q=>by obtain⟨a,e,h1⟩:=q;exact⟨a,e,hs r a h1⟩
 | .fin C ks l,_,q=>by
  obtain⟨a,d,vs,o,e,f1,f2,ho,hi,hne,hd,hl⟩:=q;obtain⟨od,hod⟩:=hd.ex;exact⟨a,d,vs,o,e,(hf a _ f1 ho).2,(hf d od f2 hod).2,(hf a _ f1 ho).1,hi,hne,hd.at' fun o e=>(hf d o f2 e).1,ak.tr hf hs l hl⟩
 | .thg ks l,_,q=>by
  obtain⟨a,d,vs,o,fd,e,f1,f2,ho,hc,hod',hfd,hd,hl⟩:=q;obtain⟨od,hod⟩:=hd.ex;exact⟨a,d,vs,o,fd,e,(hf a _ f1 ho).2,(hf d od f2 hod).2,(hf a _ f1 ho).1,hc,hod',hfd,hd.at' fun o e=>(hf d o f2 e).1,ak.tr hf hs l hl⟩
 | .bm id x,_,q=>by obtain⟨a,y,e,f,ho,hx⟩:=q;exact⟨a,y,e,(hf a _ f ho).2,(hf a _ f ho).1,VR.tr hf hs x hx⟩
 | .slc _ _ _,_,q=>by obtain⟨a,vl,vu,vs,e,f,⟨o,ho,r⟩,p1,p2,p3⟩:=q;exact⟨a,vl,vu,vs,e,(hf a o f ho).2,⟨o,(hf a o f ho).1,r⟩,p1,p2,p3⟩
 | .clo fd0 ns l,_,q=>by
  obtain⟨a,o,fd,cs,vs,e,f,ho,hc,hd,hfd,h0,hcl,hn1,hn2,hce,⟨c,oc,ws,t,e1,f1,ho1,hd1,hw⟩,hl⟩:=q
  exact⟨a,o,fd,cs,vs,e,(hf a o f ho).2,(hf a o f ho).1,hc,hd,hfd,h0,hcl,hn1,hn2,fun i c x h1 h2=>by
   obtain⟨fc,oo,hoo,hdd⟩:=hce i c x h1 h2;exact⟨(hf c oo fc hoo).2,oo,(hf c oo fc hoo).1,hdd⟩,⟨c,oc,ws,t,e1,(hf c oc f1 ho1).2,(hf c oc f1 ho1).1,hd1,hw⟩,ak.tr hf hs l hl⟩
 | .ins C r,_,q=>by obtain⟨a,d,o,e,f,ho,hi,hne,hr⟩:=q;exact⟨a,d,o,e,(hf a _ f ho).2,(hf a _ f ho).1,hi,hne,hs r d hr⟩
 | .exc cls l,_,q=>by
  obtain⟨a,o,fs,t,vs,e,f,ho,hc,hd,h0,ft,⟨ot,hot,r⟩,hl⟩:=q;exact⟨a,o,fs,t,vs,e,(hf a o f ho).2,(hf a o f ho).1,hc,hd,h0,(hf t ot ft hot).2,⟨ot,(hf t ot ft hot).1,r⟩,ak.tr hf hs l hl⟩
theorem ak.tr{P:Params}{h h':Heap}{σ Z σ' Z':List Addr}(hf:∀ a o,Fz σ Z a→h.get? a=some o→h'.get? a=some o∧Fz σ' Z' a)(hs:∀ (r:Nat) a,σ[r]? =some a→σ'[r]? =some a):
  ∀ (l:List V) {vs:List Value},ak P h σ Z l vs→ak P h' σ' Z' l vs
 | [],_,q=>by exact q
 | x::l,_,q=>by revert q;refine ee fun v r e hx hl=>?_;exact⟨v,r,e,VR.tr hf hs x hx,ak.tr hf hs l hl⟩
end
noncomputable def cT(o:Obj):Bool:=match o.data with | .dict .. =>true | _=>false
variable{o:Obj}
theorem lT{es:Array DictEntry}(h:o.data=.dict es n):cT o=true:=by unfold cT;rw[h]
variable{m:Str→Option Value}
theorem jT(x:h.Ns a m):∃ o,h.get? a=some o∧cT o=true:=by revert x;refine EQ fun o J J e d J=>?_;exact⟨o,e,lT d⟩
theorem ub(o:Obj)(sl:Array (Option Value)):cT {o with slots:=sl}=cT o:=rfl
structure FD(σ X:List Addr)(s:Shared)(σ':List Addr)(s':Shared):Prop where
 ext:∀ b o,s.heap.get? b=some o→b≠cP→b∉σ→b∉X→s'.heap.get? b=some o
 dom:∀ b o,s.heap.get? b=some o→∃ o',s'.heap.get? b=some o'∧(cT o=true→cT o'=true)
 sub:∃ τ,σ'=σ++τ∧∀ a∈τ,s.heap.get? a=none
 os:s'.os=s.os
 gens:s'.gens=s.gens
structure Go(Z σ X:List Addr)(s:Shared)(σ':List Addr)(s':Shared):Prop where
 up:∀ b o,s.heap.get? b=some o→b≠cP→b∉σ→b∉X→∃ sl,s'.heap.get? b=some {o with slots:=sl}∧(b∉Z∨cT o=false→sl=o.slots)
 dom:∀ b o,s.heap.get? b=some o→∃ o',s'.heap.get? b=some o'∧(cT o=true→cT o'=true)
 sub:∃ τ,σ'=σ++τ∧∀ a∈τ,s.heap.get? a=none
 os:s'.os=s.os
 gens:s'.gens=s.gens
section
variable{Z σ X Y σ' σ'':List Addr}{s s' s'':Shared}
theorem Go.of(g:FD σ X s σ' s'):Go Z σ X s σ' s':=⟨fun b o e h0 h1 h2=>⟨o.slots,g.ext b o e h0 h1 h2,fun J=>rfl⟩,g.dom,g.sub,g.os,g.gens⟩
theorem Go.ext(g:Go Z σ X s σ' s')(b:Addr)(o:Obj)(e:s.heap.get? b=some o)(h0:b≠cP)(h1:b∉σ)(h2:b∉X)(hz:b∉Z∨cT o=false):s'.heap.get? b=some o:=by
 refine ab (fun sl e' hs=>?_) (g.up b o e h0 h1 h2);rw[e',hs hz]
theorem Go.refl(Z σ X:List Addr)(s:Shared):Go Z σ X s σ s:=.of ⟨fun J J e J J J=>e,fun J o e=>⟨o,e,fun h=>h⟩,⟨[],by simp,fun J h=>nomatch h⟩,rfl,rfl⟩
theorem Go.mem(g:Go Z σ X s σ' s')(e:s.heap.get? a=some o)(h:a∉σ):a∉σ':=by
 obtain⟨τ,rfl,hτ⟩:=g.sub;intro hm;rcases List.mem_append.mp hm with hm | hm
 ·exact h hm
 ·rw[hτ a hm] at e;exists e
theorem Go.none(g:Go Z σ X s σ' s')(e:s'.heap.get? a=none):s.heap.get? a=none:=by
 cases q:s.heap.get? a with
 | none=>rfl
 | some o=>refine ab (fun o' e' J=>?_) (g.dom a o q);rw[e] at e';exists e'
theorem Go.trans(g:Go Z σ X s σ' s')(k:Go Z σ' Y s' σ'' s'')(hX:∀ a∈X,a∈Y:=by walk_at "tr"):Go Z σ Y s σ'' s'':=by
 refine⟨fun b o e h0 h1 h2=>?_,fun b o e=>?_,?_,k.os.trans g.os,k.gens.trans g.gens⟩
 ·refine ab (fun sl e1 q1=>?_) (g.up b o e h0 h1 fun h=>h2 (hX b h));refine ab (fun sl' e2 q2=>?_) (k.up b _ e1 h0 (g.mem e h1) h2);exact⟨sl',e2,fun h=>(q2 (h.imp (fun h=>h) fun h=>h)).trans (q1 h)⟩
 ·refine ab (fun o' e' q'=>?_) (g.dom b o e);refine ab (fun o'' e'' q''=>?_) (k.dom b o' e');exact⟨o'',e'',fun h=>q'' (q' h)⟩
 ·obtain⟨τ,rfl,hτ⟩:=g.sub;obtain⟨τ',rfl,hτ'⟩:=k.sub;refine⟨τ++τ',by simp,fun a ha=>?_⟩;rcases List.mem_append.mp ha with ha | ha
  ·exact hτ a ha
  ·exact g.none (hτ' a ha)
theorem Go.wide(g:Go Z σ X s σ' s')(hX:∀ a∈X,a∈Y):Go Z σ Y s σ' s':=
 ⟨fun b o e h0 h1 h2=>g.up b o e h0 h1 fun h=>h2 (hX b h),g.dom,g.sub,g.os,g.gens⟩
theorem Go.cut(g:Go Z σ (X++Y) s σ' s')(hY:∀ a∈Y,s.heap.get? a=Option.none):Go Z σ X s σ' s':=by
 refine⟨fun b o e h0 h1 h2=>g.up b o e h0 h1 fun h=>?_,g.dom,g.sub,g.os,g.gens⟩;rcases List.mem_append.mp h with h | h
 ·exact h2 h
 ·rw[hY b h] at e;exists e
theorem Go.less(g:Go (Y++Z) σ X s σ' s')(hY:∀ a∈Y,s.heap.get? a=Option.none):Go Z σ X s σ' s':=
 ⟨fun b o e h0 h1 h2=>by
  refine ab (fun sl e1 q=>?_) (g.up b o e h0 h1 h2);refine⟨sl,e1,fun h=>q (h.imp (fun h q=>?_) fun h=>h)⟩;rcases List.mem_append.mp q with q | q
  ·rw[hY b q] at e;exists e
  ·exact h q,g.dom,g.sub,g.os,g.gens⟩
theorem Go.more{Z':List Addr}(g:Go Z σ X s σ' s')(h:∀ a∈Z,a∈Z'):Go Z' σ X s σ' s':=
 ⟨fun b o e h0 h1 h2=>by
  refine ab (fun sl e1 q=>?_) (g.up b o e h0 h1 h2);exact⟨sl,e1,fun q'=>q (q'.imp (fun q' q=>q' (h b q)) fun h=>h)⟩,g.dom,g.sub,g.os,g.gens⟩
theorem Go.get(g:Go Z σ X s σ' s')(hX:∀ a∈X,a∈Z)(e:s.heap.get? a=some o)(f:Fz σ Z a):s'.heap.get? a=some o:=
 g.ext a o e (fun h=>by have:=f.lo;rw[h] at this;exact absurd this (by decide)) f.ns (fun h=>f.nz (hX a h)) (.inl f.nz)
theorem Go.fz(g:Go Z σ X s σ' s'){Z':List Addr}(e:s.heap.get? a=some o)(f:Fz σ Z' a):Fz σ' Z' a:=⟨f.lo,g.mem e f.ns,f.nz⟩
theorem Go.sig(g:Go Z σ X s σ' s'):∀ (r:Nat) a,σ[r]? =some a→σ'[r]? =some a:=fun r a e=>by
 obtain⟨τ,rfl,_⟩:=g.sub;rw[List.getElem?_append_left (List.getElem?_eq_some_iff.mp e).1];exact e
theorem Go.keepFz(g:Go Z σ X s σ' s')(hX:∀ a∈X,a∈Z):∀ a o,Fz σ Z a→s.heap.get? a=some o→s'.heap.get? a=some o∧Fz σ' Z a:=fun J J f e=>⟨g.get hX e f,g.fz e f⟩
end
variable{σ Z:List Addr}
theorem Fz.mono{Z':List Addr}(f:Fz σ Z' a)(h:∀ a∈Z,a∈Z'):Fz σ Z a:=⟨f.lo,f.ns,fun q=>f.nz (h a q)⟩
theorem Fz.grow{Y:List Addr}(f:Fz σ Z a)(hy:∀ a∈Y,h.get? a=none)(e:h.get? a=some o):Fz σ (Y++Z) a:=
 ⟨f.lo,f.ns,fun q=>by
  rcases List.mem_append.mp q with q | q
  ·rw[hy a q] at e;exists e
  ·exact f.nz q⟩
section
variable{P:Params}{Z σ X σ':List Addr}{s s':Shared}
variable{v:Value}
theorem VR.go(g:Go Z σ X s σ' s')(hX:∀ a∈X,a∈Z)(x:V)(q:VR P s.heap σ Z x v):VR P s'.heap σ' Z x v:=VR.tr (g.keepFz hX) g.sig x q
theorem ak.go(g:Go Z σ X s σ' s')(hX:∀ a∈X,a∈Z)(l:List V)(q:ak P s.heap σ Z l vs):ak P s'.heap σ' Z l vs:=ak.tr (g.keepFz hX) g.sig l q
theorem VR.mono{Z':List Addr}(hz:∀ a∈Z,a∈Z')(x:V)(q:VR P h σ Z' x v):VR P h σ Z x v:=VR.tr (fun a o f e=>⟨e,f.mono hz⟩) (fun J J h=>h) x q
theorem ak.mono{Z':List Addr}(hz:∀ a∈Z,a∈Z')(l:List V)(q:ak P h σ Z' l vs):ak P h σ Z l vs:=ak.tr (fun a o f e=>⟨e,f.mono hz⟩) (fun J J h=>h) l q
theorem VR.grow{Y:List Addr}(hy:∀ a∈Y,h.get? a=none)(x:V)(q:VR P h σ Z x v):VR P h σ (Y++Z) x v:=VR.tr (fun a o f e=>⟨e,f.grow hy e⟩) (fun J J h=>h) x q
theorem ak.grow{Y:List Addr}(hy:∀ a∈Y,h.get? a=none)(l:List V)(q:ak P h σ Z l vs):ak P h σ (Y++Z) l vs:=ak.tr (fun a o f e=>⟨e,f.grow hy e⟩) (fun J J h=>h) l q
end
inductive E3 (P:Params) (h:Heap) (σ Z:List Addr) (l:List V) (a:Addr):Prop
 | mk (vs:Array Value):h.PlainList a vs→ak P h σ Z l vs.toList→E3 P h σ Z l a
inductive EZ (P:Params) (h:Heap) (σ Z:List Addr) (ks:List Str) (l:List V) (a:Addr):Prop
 | mk (vs:List Value):cZ P h a ks vs→ak P h σ Z l vs→EZ P h σ Z ks l a
inductive E4 (P:Params) (h:Heap) (σ Z:List Addr) (ks:List Str) (l:List V) (a:Addr):Prop
 | mk (vs:List Value):xh h a ks vs→ak P h σ Z l vs→E4 P h σ Z ks l a
inductive BK (h:Heap) (a:Addr):Prop
 | mk (o:Obj) (fd:FuncData):h.get? a=some o→o.cls=.type "function"→o.data=.func fd→o.dict=none→BK h a
inductive E0 (h:Heap) (σ:List Addr) (r:Nat) (a:Addr):Prop
 | mk (o:Obj) (fd:FuncData) (d:Addr):h.get? a=some o→o.cls=.type "function"→o.data=.func fd→o.dict=some d→σ[r]? =some d→E0 h σ r a
noncomputable def OR(P:Params)(h:Heap)(σ Z:List Addr):Ob→Addr→Prop
 | .l l,a=>E3 P h σ Z l a
 | .d ks l,a=>EZ P h σ Z ks l a
 | .n ks l,a=>E4 P h σ Z ks l a
 | .f none,a=>BK h a
 | .f (Option.some r),a=>E0 h σ r a
theorem OR.ex:∀ {ob:Ob} {a:Addr},OR P h σ Z ob a→∃ o,h.get? a=some o
 | .l _,_,q=>by obtain⟨_,⟨_,e⟩,_⟩:=q;exact⟨_,e⟩
 | .d _ _,_,q=>by obtain⟨_,d,_⟩:=q;exact d.ex
 | .n _ _,_,q=>by obtain⟨_,d,_⟩:=q;exact d.ex
 | .f none,_,q=>by obtain⟨o,_,e,_,_,_⟩:=q;exact⟨o,e⟩
 | .f (Option.some _),_,q=>by obtain⟨o,_,_,e,_,_,_,_⟩:=q;exact⟨o,e⟩
variable{σ':List Addr}
theorem OR.tr{Z':List Addr}(hf:∀ a o,Fz σ Z a→h.get? a=some o→h'.get? a=some o∧Fz σ' Z' a)(hs:∀ (r:Nat) a,σ[r]? =some a→σ'[r]? =some a):
  ∀ {ob:Ob} {a:Addr},(∀ o,h.get? a=some o→h'.get? a=some o)→OR P h σ Z ob a→OR P h' σ' Z' ob a
 | .l l,_,k,q=>by obtain⟨vs,⟨n,e⟩,q⟩:=q;exact⟨vs,⟨n,k _ e⟩,ak.tr hf hs l q⟩
 | .d _ l,_,k,q=>by obtain⟨vs,d,q⟩:=q;exact⟨vs,d.at' k,ak.tr hf hs l q⟩
 | .n _ l,_,k,q=>by obtain⟨vs,d,q⟩:=q;exact⟨vs,d.at' k,ak.tr hf hs l q⟩
 | .f none,_,k,q=>by obtain⟨o,fd,e,r1,r2,r3⟩:=q;exact⟨o,fd,k _ e,r1,r2,r3⟩
 | .f (Option.some _),_,k,q=>by obtain⟨o,fd,d,e,r1,r2,r3,r4⟩:=q;exact⟨o,fd,d,k _ e,r1,r2,r3,hs _ _ r4⟩
structure Bs(h:Heap):Prop where
 gl:∃ mg,h.Ns mainGlobals mg
 bt:∃ mb,h.Ns builtinsNs mb∧∀ x:Str,x≠"__name__"→mb x=bootBuiltins x
 lim:h.NoLimit
 low:∀ a,a < 378→∃ o,h.get? a=some o
noncomputable def gC(A:Around)(Z:List Addr)(h:Heap):Prop:=
 ∃ fl,A.frames=some fl∧∀ e∈fl,e.scope.kind≠ .module∧∃ L o,e.frame=some L∧L∈Z∧h.get? L=some o∧cT o=true
variable{A:Around}
theorem gC.tr{A':Around}{Z':List Addr}(x:gC A Z h)(hA:A'.frames=A.frames)(hz:∀ a∈Z,a∈Z')(hd:∀ b o,b∈Z→h.get? b=some o→∃ o',h'.get? b=some o'∧(cT o=true→cT o'=true)):gC A' Z' h':=by
 revert x;refine ab fun fl e q=>?_
 refine⟨fl,hA.trans e,fun env he=>?_⟩;obtain⟨hk,L,o,h1,h2,h3,h4⟩:=q env he;refine ab (fun o' h5 h6=>?_) (hd L o h2 h3);exact⟨hk,L,o',h1,hz L h2,h5,h6 h4⟩
noncomputable def pa(h:Heap)(σ Z:List Addr):Prop:=∃ ps,h.get? cP=some (tabObj ps)∧TriplesOk ps.toList∧∀ pos cv,codeAmong pos ps.toList=some cv→gB h σ Z cv
variable{cv:Value}
theorem gB.tr{Z':List Addr}(hf:∀ a o,Fz σ Z a→h.get? a=some o→h'.get? a=some o∧Fz σ' Z' a)(x:gB h σ Z cv):gB h' σ' Z' cv:=by
 obtain⟨c,oc,ws,t,e1,f1,ho1,hd1,hw⟩:=x;exact⟨c,oc,ws,t,e1,(hf c oc f1 ho1).2,(hf c oc f1 ho1).1,hd1,hw⟩
theorem pa.tr{Z':List Addr}(x:pa h σ Z)(hf:∀ a o,Fz σ Z a→h.get? a=some o→h'.get? a=some o∧Fz σ' Z' a)(ht:∀ o,h.get? cP=some o→h'.get? cP=some o):pa h' σ' Z':=by
 revert x;refine fo fun ps e k q=>?_
 exact⟨ps,ht _ e,k,fun pos cv hc=>(q pos cv hc).tr hf⟩
inductive Cx (h:Heap) (σ Z:List Addr):Value→Prop
 | none:Cx h σ Z .none
 | ref {b:Addr} {o:Obj} {fs:Array Value} {c:Value}:Fz σ Z b→h.get? b=some o→o.data=.fields fs→fs[2]? =some c→Cx h σ Z c→Cx h σ Z (.ref b)
variable{v:Value}
theorem Cx.tr{Z':List Addr}(hf:∀ a o,Fz σ Z a→h.get? a=some o→h'.get? a=some o∧Fz σ' Z' a)(x:Cx h σ Z v):Cx h' σ' Z' v:=by
 induction x with
 | none=>exact .none
 | ref f e d e2 _ ih=>exact .ref (hf _ _ f e).2 (hf _ _ f e).1 d e2 ih
noncomputable def uY(A:Around)(σ Z:List Addr)(h:Heap):Prop:=∀ v,A.handled=some v→Cx h σ Z v∧v≠ .none
theorem uY.tr{A':Around}{Z':List Addr}(x:uY A σ Z h)(hh:A'.handled=A.handled)(hf:∀ a o,Fz σ Z a→h.get? a=some o→h'.get? a=some o∧Fz σ' Z' a):uY A' σ' Z' h':=fun v e=>⟨(x v (hh▸e)).1.tr hf,(x v (hh▸e)).2⟩
structure St(K:Frag)(P:Params)(A:Around)(σ Z:List Addr)(H:Hp)(s:Shared):Prop where
 kin:K.In s.heap
 kb:∀ a o,K.lookup a=some o→a < 378∧a≠cP
 bs:Bs s.heap
 ks:∀ a∈σ,378≤a
 kz:∀ a∈Z,378≤a
 zd:∀ a∈Z,∃ o,s.heap.get? a=some o
 len:σ.length=H.length
 nd:σ.Nodup
 apart:∀ a∈σ,a∉Z
 hr:∀ (r:Nat) (l:Ob),H[r]? =some l→∃ a,σ[r]? =some a∧OR P s.heap σ Z l a
 gens:s.gens= #[]
 fr:gC A Z s.heap
 tb:pa s.heap σ Z
 hx:uY A σ Z s.heap
section
variable{K:Frag}{P:Params}{A:Around}{σ X Z σ':List Addr}{H:Hp}{s s':Shared}
theorem St.at(S:St K P A σ Z H s)(e:K.lookup a=some o):s.heap.get? a=some o:=S.kin a o e
theorem St.apt(S:St K P A σ Z H s)(a:Addr)(h:a∈σ∨a=cP)(q:a∈Z):False:=h.elim (fun h=>S.apart a h q) fun h=>absurd (S.kz a q) (by rw[h];decide)
theorem St.old(S:St K P A σ Z H s)(g:Go Z σ X s σ' s')(hX:∀ a∈X,a∈Z)(hl:a < 378)(ht:a≠cP)(e:s.heap.get? a=some o):s'.heap.get? a=some o:=
 g.ext a o e ht (fun h=>absurd (S.ks a h) (Nat.not_le.mpr hl)) (fun h=>absurd (S.kz a (hX a h)) (Nat.not_le.mpr hl)) (.inl fun h=>absurd (S.kz a h) (Nat.not_le.mpr hl))
theorem Bs.go(S:St K P A σ Z H s)(g:Go Z σ X s σ' s')(hX:∀ a∈X,a∈Z):Bs s'.heap where
 gl:=by obtain⟨mg,o,es,ep,e,r⟩:=S.bs.gl;exact⟨mg,o,es,ep,S.old g hX (by decide) (by decide) e,r⟩
 bt:=by obtain⟨mb,⟨o,es,ep,e,r⟩,q⟩:=S.bs.bt;exact⟨mb,⟨o,es,ep,S.old g hX (by decide) (by decide) e,r⟩,q⟩
 lim:=by obtain⟨mc,⟨o,es,ep,e,r⟩,q⟩:=S.bs.lim;exact⟨mc,⟨o,es,ep,S.old g hX (by decide) (by decide) e,r⟩,q⟩
 low:=fun a ha=>by refine af (fun o e=>?_) (S.bs.low a ha);refine ab (fun o' e' J=>?_) (g.dom a o e);exact⟨o',e'⟩
theorem St.go(S:St K P A σ Z H s)(g:Go Z σ X s σ s')(hX:∀ a∈X,a∈Z)
  (hl:∀ a o,a∈σ∨a=cP→s.heap.get? a=some o→s'.heap.get? a=some o):St K P A σ Z H s' where
 kin:=fun a o e=>S.old g hX (S.kb a o e).1 (S.kb a o e).2 (S.kin a o e)
 kb:=S.kb
 bs:=Bs.go S g hX
 ks:=S.ks
 kz:=S.kz
 zd:=fun a h=>by refine af (fun o e=>?_) (S.zd a h);refine ab (fun o' e' J=>?_) (g.dom a o e);exact⟨o',e'⟩
 len:=S.len
 nd:=S.nd
 apart:=S.apart
 hr:=fun r l e=>by
  refine ab (fun a e1 e3=>?_) (S.hr r l e);exact⟨a,e1,e3.tr (g.keepFz hX) g.sig fun o e=>hl a o (.inl (List.mem_of_getElem? e1)) e⟩
 gens:=g.gens.trans S.gens
 fr:=S.fr.tr rfl (fun J h=>h) fun b o J e=>g.dom b o e
 tb:=S.tb.tr (g.keepFz hX) fun o e=>hl _ o (.inr rfl) e
 hx:=S.hx.tr rfl (g.keepFz hX)
theorem St.around{A':Around}(S:St K P A σ Z H s)(h:A'.frames=A.frames)(hh:A'.handled=A.handled:=by rfl):St K P A' σ Z H s:=
 ⟨S.kin,S.kb,S.bs,S.ks,S.kz,S.zd,S.len,S.nd,S.apart,S.hr,S.gens,S.fr.tr h (fun J h=>h) fun J o J e=>⟨o,e,fun h=>h⟩,S.tb,fun v e=>S.hx v (hh▸e)⟩
variable{r:Nat}
theorem St.ob(S:St K P A σ Z H s){ob:Ob}(ea:σ[r]? =some a)(hr:H[r]? =some ob):OR P s.heap σ Z ob a:=by
 refine ab (fun b e1 q=>?_) (S.hr _ _ hr);rw[ea] at e1;exact Option.some.inj e1▸q
theorem St.obL(S:St K P A σ Z H s){l:List V}(hr:H[r]? =some (.l l)):∃ a vs,σ[r]? =some a∧s.heap.PlainList a vs∧ak P s.heap σ Z l vs.toList:=by
 obtain⟨a,e,vs,h,h2⟩:=S.hr r _ hr;exact⟨a,vs,e,h,h2⟩
end
structure Hd where
 h:Bool
 top:Option Env:=none
structure cF(A:Around)(d:Nat)(hd:Hd):Prop where
 depth:A.depth+2 * d < recursionLimit
 units:A.units+40 * d < cLine
 none:hd.h=true→A.handled=none
 guards:A.guards=some []
 top:∀ e,hd.top=some e→∃ outer,A.frames=some (e::outer)
structure X where
 cls:String
 args:List V
inductive D5 (s:Shared) (fs:Array Value) (a:Addr) (Y:List Addr) (fl:Value):Prop
 | mk (T:Addr) (oT:Obj) (ts:Array Value):T∈Y→fs[1]? =some (.ref T)→T≠a→s.heap.get? T=some oT→oT.data=.fields ts→ts[3]? =some fl→D5 s fs a Y fl
inductive lu (K:Frag) (P:Params) (A:Around) (h0:Heap) (s:Shared) (σ Z:List Addr) (H:Hp) (x:X) (e:Value) (G:List Addr→Prop):Prop
 | mk (a:Addr) (Y:List Addr) (o:Obj) (fs:Array Value) (t:Addr) (vs:Array Value):e=.ref a→a∈Y→(∀ b∈Y,h0.get? b=none)→St K P A σ (Y++Z) H s→s.heap.get? a=some o→o.cls=.type x.cls→o.data=.fields fs→fs[0]? =some (.ref t)→Fz σ (Y++Z) t→s.heap.IsTuple t vs→ak P s.heap σ (Y++Z) x.args vs.toList→
  (fs[1]? =some .none∨∃ fl,D5 s fs a Y fl)→(∃ c,fs[2]? =some c∧Cx s.heap σ (Y++Z) c)→G Y→lu K P A h0 s σ Z H x e G
noncomputable abbrev XR(K:Frag)(P:Params)(A:Around)(h0:Heap)(s:Shared)(σ Z:List Addr)(H:Hp)(x:X)(e:Value):Prop:=lu K P A h0 s σ Z H x e fun J=>True
variable{K:Frag}{h0:Heap}{H:Hp}{e:Value}
theorem lu.old'{h1:Heap}{x:X}{G:List Addr→Prop}(k:∀ a,h1.get? a=none→h0.get? a=none)(q:lu K P A h1 s σ Z H x e G):lu K P A h0 s σ Z H x e G:=by
 obtain⟨a,Y,o,fs,t,vs,e1,e2,e3,r1,r2,r3,r4,r5,r6,r7,r8,r9,r10,r11⟩:=q;exact⟨a,Y,o,fs,t,vs,e1,e2,fun b hb=>k b (e3 b hb),r1,r2,r3,r4,r5,r6,r7,r8,r9,r10,r11⟩
variable{σ0 σ1:List Addr}{s0 s1:Shared}
theorem lu.old{Z0 X0:List Addr}{x:X}{G:List Addr→Prop}(q:lu K P A s1.heap s σ Z H x e G)(g:Go Z0 σ0 X0 s0 σ1 s1):lu K P A s0.heap s σ Z H x e G:=q.old' fun J=>g.none
structure FR(P:Params)(σ Z:List Addr)(env:Env)(ρ:List (Str × V))(h:Heap):Prop where
 kind:env.scope.kind=.function
 glob:env.globals=mainGlobals
 blt:env.builtins=builtinsNs
 ns:∃ m,h.Ns env.locals m∧∀ x u,(x,u)∈ρ→env.kindOf x=some .local→∃ v,m x=some v∧VR P h σ Z u v
 cell:∀ x u,(x,u)∈ρ→(env.kindOf x=some .cell∨env.kindOf x=some .free)→∃ c v,env.cells.lookup x=some c∧h.IsCell c (some v)∧VR P h σ Z u v
 all:∀ x u,(x,u)∈ρ→env.kindOf x=some .local∨env.kindOf x=some .cell∨env.kindOf x=some .free
 locZ:env.locals∈Z
 celZ:∀ x c,(x,c)∈env.cells→(c∈Z∨(Fz σ Z c∧env.kindOf x=some .free))∧c≠env.locals
 one:∀ x y c,(x,c)∈env.cells→(y,c)∈env.cells→x=y
 cex:∀ x c,(x,c)∈env.cells→∃ o,h.IsCell c o
 plain:∀ x u,(x,u)∈ρ→(x==("__debug__":Str))=false∧(x==("__classdict__":Str))=false
 celD:∀ x,env.kindOf x=some .cell∨env.kindOf x=some .free→(env.cells.lookup x).isSome=true
theorem pT(x:h.Ns a m):∃ o,h.get? a=some o:=by revert x;refine uw fun o J J e J=>?_;exact⟨o,e⟩
theorem sR(x:h.Ns a m)(k:∀ o,h.get? a=some o→∃ sl,h'.get? a=some {o with slots:=sl}):h'.Ns a m:=by revert x;refine uw fun o es ep e r=>?_;refine af (fun sl e'=>?_) (k o e);exact⟨_,es,ep,e',r⟩
variable{m:Option Value}
theorem kR(x:h.IsCell a m)(k:∀ o,h.get? a=some o→∃ sl,h'.get? a=some {o with slots:=sl}):h'.IsCell a m:=by revert x;refine ab fun o e r=>?_;refine af (fun sl e'=>?_) (k o e);exact⟨_,e',r⟩
theorem CR{m:Str→Option Value}(x:h.Ns a m)(k:∀ o,h.get? a=some o→h'.get? a=some o):h'.Ns a m:=by revert x;refine uw fun o es ep e r=>?_;exact⟨o,es,ep,k o e,r⟩
theorem cK(x:h.IsCell a m)(k:∀ o,h.get? a=some o→h'.get? a=some o):h'.IsCell a m:=by revert x;refine ab fun o e r=>?_;exact⟨o,k o e,r⟩
theorem Go.upZ{X:List Addr}(g:Go Z σ X s σ' s')(S:St K P A σ Z H s){b:Addr}(hb:b∈Z)(hX:b∉X):∀ o,s.heap.get? b=some o→∃ sl,s'.heap.get? b=some {o with slots:=sl}:=fun o e=>by
 refine ab (fun sl e' J=>?_) (g.up b o e (fun h=>absurd (S.kz _ hb) (by rw[h];decide)) (fun h=>S.apart _ h hb) hX);exact⟨sl,e'⟩
variable{env:Env}{ρ:List (Str × V)}{c:Addr}
theorem FR.celUp(F:FR P σ Z env ρ s.heap)(S:St K P A σ Z H s)(g:Go Z σ [] s σ' s'){x:Str}(h:(x,c)∈env.cells):
  ∀ o,s.heap.get? c=some o→∃ sl,s'.heap.get? c=some {o with slots:=sl}:=fun o e=>by
 rcases(F.celZ x c h).1 with q | ⟨f,_⟩
 ·exact g.upZ S q (fun h=>nomatch h) o e
 ·exact⟨o.slots,g.get (fun J h=>nomatch h) e f⟩
theorem FR.go(F:FR P σ Z env ρ s.heap)(S:St K P A σ Z H s)(g:Go Z σ [] s σ' s'):FR P σ' Z env ρ s'.heap where
 kind:=F.kind
 glob:=F.glob
 blt:=F.blt
 ns:=by
  obtain⟨m,hm,q⟩:=F.ns;refine⟨m,sR hm (g.upZ S F.locZ fun h=>nomatch h),fun x u e1 e2=>?_⟩;refine ab (fun v e3 hv=>?_) (q x u e1 e2);exact⟨v,e3,VR.go g (fun J h=>nomatch h) _ hv⟩
 cell:=fun x u e1 e2=>by
  refine ee (fun c v e3 hc hv=>?_) (F.cell x u e1 e2);exact⟨c,v,e3,kR hc (F.celUp S g (mem_of_lookup e3)),VR.go g (fun J h=>nomatch h) _ hv⟩
 all:=F.all
 locZ:=F.locZ
 celZ:=fun x c h=>⟨(F.celZ x c h).1.imp (fun h=>h) fun⟨f,k⟩=>⟨(let ⟨_,_,e,_⟩:=F.cex x c h;g.fz e f),k⟩,(F.celZ x c h).2⟩
 one:=F.one
 plain:=F.plain
 celD:=F.celD
 cex:=fun x c e=>by
  refine af (fun o hc=>?_) (F.cex x c e);exact⟨o,kR hc (F.celUp S g e)⟩
theorem FR.up{Z':List Addr}(F:FR P σ Z env ρ h)(hf:∀ a o,Fz σ Z a→h.get? a=some o→h'.get? a=some o∧Fz σ' Z' a)(hs:∀ (r:Nat) a,σ[r]? =some a→σ'[r]? =some a)(ho:∀ a o,a∈Z→(a=env.locals∨∃ x,(x,a)∈env.cells)→h.get? a=some o→∃ sl,h'.get? a=some {o with slots:=sl})(hZ:∀ a,a∈Z→(a=env.locals∨∃ x,(x,a)∈env.cells)→a∈Z'):FR P σ' Z' env ρ h':=by
 refine⟨F.kind,F.glob,F.blt,?_,fun x u e1 e2=>?_,F.all,hZ _ F.locZ (.inl rfl),fun x c h=>⟨(F.celZ x c h).1.imp (fun q=>hZ _ q (.inr ⟨x,h⟩)) fun⟨f,k⟩=>⟨(let ⟨_,_,e,_⟩:=F.cex x c h;(hf c _ f e).2),k⟩,(F.celZ x c h).2⟩,F.one,fun x c h=>?_,F.plain,F.celD⟩
 ·obtain⟨m,hm,q⟩:=F.ns;refine⟨m,sR hm fun o e=>ho _ o F.locZ (.inl rfl) e,fun x u e1 e2=>?_⟩;refine ab (fun v e3 hv=>?_) (q x u e1 e2);exact⟨v,e3,VR.tr hf hs _ hv⟩
 ·refine ee (fun c v e3 hc hv=>?_) (F.cell x u e1 e2);exact⟨c,v,e3,kR hc (fun o e=>(F.celZ x c (mem_of_lookup e3)).1.elim (fun q=>ho _ o q (.inr ⟨x,mem_of_lookup e3⟩) e) fun⟨f,_⟩=>⟨o.slots,(hf c o f e).1⟩),VR.tr hf hs _ hv⟩
 ·refine af (fun o hc=>?_) (F.cex x c h);exact⟨o,kR hc fun o e=>(F.celZ x c h).1.elim (fun q=>ho _ o q (.inr ⟨x,h⟩) e) fun⟨f,_⟩=>⟨o.slots,(hf c o f e).1⟩⟩
variable{s₁:Shared}
theorem FR.frame{Y:List Addr}(F:FR P σ Z env ρ s.heap)(S:St K P A σ Z H s)(g:Go Z σ [] s σ' s₁)(hy:∀ a∈Y,s.heap.get? a=none):FR P σ' (Y++Z) env ρ s₁.heap:=
 F.up (fun a o f e=>⟨g.get (fun J h=>nomatch h) e f,Fz.grow (g.fz e f) (h:=s.heap) hy e⟩) g.sig (fun a o hz J e=>g.upZ S hz (fun h=>nomatch h) o e) fun a h J=>List.mem_append_right _ h
theorem lu.fr{H':Hp}{x:X}{G:List Addr→Prop}(q:lu K P A s.heap s₁ σ' Z H' x e G)(F:FR P σ Z env ρ s.heap)(S:St K P A σ Z H s)(g:Go Z σ [] s σ' s₁):
  lu K P A s.heap s₁ σ' Z H' x e fun Y=>FR P σ' (Y++Z) env ρ s₁.heap:=by
 obtain⟨a,Y,o,fs,t,vs,e1,e2,e3,e4,e5,e6,e7,e8,e9,e10,e11,e12,e13,_⟩:=q;exact⟨a,Y,o,fs,t,vs,e1,e2,e3,e4,e5,e6,e7,e8,e9,e10,e11,e12,e13,F.frame S g e3⟩
noncomputable def zM(w:World)(K:Frag)(A:Around)(Z σ:List Addr)(s:Shared)(k:V→Hp→Prop)(Q:Value→Shared→Prop):Prop:=
 ∀ v s' σ' x H',Go Z σ [] s σ' s'→St K w.params A σ' Z H' s'→VR w.params s'.heap σ' Z x v→k x H'→Q v s'
noncomputable def tu(w:World)(K:Frag)(A:Around)(Z σ:List Addr)(s:Shared)(kx:X→Hp→Prop)(E:Value→Shared→Prop):Prop:=
 ∀ e s' σ' x H',Go Z σ [] s σ' s'→St K w.params A σ' Z H' s'→XR K w.params A s.heap s' σ' Z H' x e→kx x H'→E e s'
variable{k:V→Hp→Prop}{Q:Value→Shared→Prop}
theorem zM.go(h:zM w K A Z σ s k Q)(g:Go Z σ [] s σ1 s1):zM w K A Z σ1 s1 k Q:=fun v s' σ' x H' g'=>h v s' σ' x H' (g.trans g')
variable{E:Value→Shared→Prop}
theorem tu.go{kx:X→Hp→Prop}(h:tu w K A Z σ s kx E)(g:Go Z σ [] s σ1 s1):tu w K A Z σ1 s1 kx E:=fun e s' σ' x H' g' S' hx=>h e s' σ' x H' (g.trans g') S' (hx.old g)
section
variable(prog:Program)(w:World)(K:Frag)
noncomputable def Ev(d:Nat)(hd:Hd)(env:Env)(ρ:List (Str × V))(t:Sem Value)(H:Hp)(k:V→Hp→Prop)(kx:X→Hp→Prop):Prop:=
 ∀ (A:Around) (σ Z:List Addr) (s:Shared) (Q:Value→Shared→Prop) (E:Value→Shared→Prop),cF A d hd→St K w.params A σ Z H s→FR w.params σ Z env ρ s.heap→
  zM w K A Z σ s k Q→
  tu w K A Z σ s kx E→wpAny (model prog w) A t Q E s
noncomputable def Pr(d:Nat)(hd:Hd)(xs:List V)(f:List Value→Sem Value)(H:Hp)(k:V→Hp→Prop)(kx:X→Hp→Prop):Prop:=
 ∀ (A:Around) (σ Z:List Addr) (s:Shared) (vs:List Value) (Q:Value→Shared→Prop) (E:Value→Shared→Prop),cF A d hd→St K w.params A σ Z H s→ak w.params s.heap σ Z xs vs→
  zM w K A Z σ s k Q→
  tu w K A Z σ s kx E→wpAny (model prog w) A (f vs) Q E s
end
section
variable(prog:Program)(w:World)(K:Frag)(d:Nat)(hd:Hd)
noncomputable abbrev Ea(f:List Value→Sem Value)(k:V→Hp→Prop)(kx:X→Hp→Prop)(a b:V)(H:Hp):Prop:=Pr prog w K d hd [a,b] f H k kx
noncomputable abbrev Ec(f:List Value→Sem Value)(k:V→Hp→Prop)(kx:X→Hp→Prop)(u:V)(H:Hp):Prop:=Pr prog w K d hd [u] f H k kx
noncomputable abbrev tz(f:List Value→Sem Value)(k:V→Hp→Prop)(kx:X→Hp→Prop)(us:List V)(H:Hp):Prop:=Pr prog w K d hd us f H k kx
noncomputable abbrev xu(u:V)(f:List Value→Sem Value)(k:V→Hp→Prop)(kx:X→Hp→Prop)(us:List V)(H:Hp):Prop:=Pr prog w K d hd (u::us) f H k kx
noncomputable abbrev BV(env:Env)(ρ:ai)(t:Sem Value)(k':V→V→Hp→Prop)(kx:X→Hp→Prop)(u:V)(H:Hp):Prop:=Ev prog w K d hd env ρ t H (k' u) kx
end
noncomputable def qE(op:Operator):List Value→Sem Value
 | [u,v]=>binaryOp op u v
 | _=>unsupported ""
noncomputable def kL(op:CmpOp):List Value→Sem Value
 | [u,v]=>compareOp op u v
 | _=>unsupported ""
variable{prog:Program}{d:Nat}{hd:Hd}{kx:X→Hp→Prop}
variable{x:V}{a:Value}
theorem ak.two{y:V}{b:Value}(hx:VR P h σ Z x a)(hy:VR P h σ Z y b):ak P h σ Z [x,y] [a,b]:=by
 exact⟨a,[b],rfl,hx,by exact⟨b,[],rfl,hy,by rfl⟩⟩
theorem ak.one(hx:VR P h σ Z x a):ak P h σ Z [x] [a]:=by
 exact⟨a,[],rfl,hx,by rfl⟩
theorem ak.nil:ak P h σ Z [] []:=by rfl
variable{l r:PySem.Expr}{pos:Pos}
theorem i0{op:Operator}(h:Ev prog w K d hd env ρ (eval l env) H (BV prog w K d hd env ρ (eval r env) (Ea prog w K d hd (qE op) k kx) kx) kx):
  Ev prog w K d hd env ρ (eval (.BinOp l op r pos) env) H k kx:=by
 intro A σ Z s Q E hA S F hQ hE;refine wpAny_BinOp (h A σ Z s _ _ hA S F (fun a s1 σ1 x H1 g1 S1 hx hk=>?_) hE);refine hk A σ1 Z s1 _ _ hA S1 (F.go S g1) (fun b s2 σ2 y H2 g2 S2 hy hk2=>?_) (hE.go g1)
 exact hk2 A σ2 Z s2 [a,b] _ _ hA S2 (ak.two (VR.go g2 (fun J h=>nomatch h) _ hx) hy) (hQ.go (g1.trans g2))
  (hE.go (g1.trans g2))
variable{kx:X→Hp→Prop}
theorem Go.tok(Z σ X:List Addr)(s:Shared)(t:Nat):Go Z σ X s σ {s with toks:=t}:=.of ⟨fun J J e J J J=>e,fun J o e=>⟨o,e,fun h=>h⟩,⟨[],by walk_at "s",fun J h=>nomatch h⟩,rfl,rfl⟩
theorem St.tok(S:St K P A σ Z H s)(t:Nat):St K P A σ Z H {s with toks:=t}:=⟨S.kin,S.kb,S.bs,S.ks,S.kz,S.zd,S.len,S.nd,S.apart,S.hr,S.gens,S.fr,S.tb,S.hx⟩
theorem DU(h:k .none H):Ev prog w K d hd env ρ (eval (.Constant .none n pos) env) H k kx:=by
 intro A σ Z s Q E hA S F hQ hE;rw[eval_Constant];exact wpAny_pure (hQ _ _ σ _ _ (Go.refl ..) S (by rfl) h)
theorem fN{b:Bool}(h:k (.bool b) H):Ev prog w K d hd env ρ (eval (.Constant (.bool b) n pos) env) H k kx:=by
 intro A σ Z s Q E hA S F hQ hE;rw[eval_Constant];exact wpAny_pure (hQ _ _ σ _ _ (Go.refl ..) S (by rfl) h)
variable{i:Int}
theorem jN(h:k (.int i) H):Ev prog w K d hd env ρ (eval (.Constant (.int i) n pos) env) H k kx:=by
 intro A σ Z s Q E hA S F hQ hE;exact wpAny_Constant_int (hQ _ _ σ _ _ (Go.tok ..) (S.tok _) (by exact⟨_,rfl⟩) h)
variable{x:Str}
theorem fP(h:k (.str x) H):Ev prog w K d hd env ρ (eval (.Constant (.str x) n pos) env) H k kx:=by
 intro A σ Z s Q E hA S F hQ hE;exact Calls.Constant_str (hQ _ _ σ _ _ (Go.tok ..) (S.tok _) (by exact⟨_,rfl⟩) h)
variable{u:V}
theorem cm(e:(x,u)∈ρ)(h:k u H):
  Ev prog w K d hd env ρ (eval (.Name x pos) env) H k kx:=by
 intro A σ Z s Q E hA S F hQ hE;refine wpAny_Name ?_ (F.plain x u e).1;rcases F.all x u e with hl | hc | hf
 ·obtain⟨m,hm,q⟩:=F.ns;refine ab (fun v hv hr=>?_) (q x u e hl);exact wpAny_loadName_local F.kind hl hm hv (hQ _ _ σ _ _ (Go.refl ..) S hr h)
 ·refine ee (fun c v e1 e2 hr=>?_) (F.cell x u e (.inl hc));exact wpAny_loadName_cell F.kind hc e1 e2 (hQ _ _ σ _ _ (Go.refl ..) S hr h)
 ·refine ee (fun c v e1 e2 hr=>?_) (F.cell x u e (.inr hf));exact wpAny_loadName_free F.kind hf e1 e2 (hQ _ _ σ _ _ (Go.refl ..) S hr h) (F.plain x u e).2
variable{a:Addr}
theorem xK(hk:env.kindOf x=some .globalImplicit)(e:nsIn K mainGlobals x=some (some (.ref a)))(h:k (.gl a) H)(hx:(x==("__debug__":Str))=false):
  Ev prog w K d hd env ρ (eval (.Name x pos) env) H k kx:=by
 intro A σ Z s Q E hA S F hQ hE;obtain⟨mg,hg⟩:=S.bs.gl;exact Calls.Name_function_global F.kind hk (Calls.loadGlobal_global (by rw[F.glob];exact hg) (mg_of S.kin hg e) (hQ _ _ σ _ _ (Go.refl ..) S (by rfl) h)) hx
theorem Aa(hk:env.kindOf x=some .globalImplicit)(e:nsIn K mainGlobals x=some none)(hb:bootBuiltins x=some v)(hne:x≠"__name__")(hu:(∃ id,v=.builtin id∧u=.bi id)∨(∃ n,v=.type n∧u=.ty n))(h:k u H)(hx:(x==("__debug__":Str))=false):
  Ev prog w K d hd env ρ (eval (.Name x pos) env) H k kx:=by
 intro A σ Z s Q E hA S F hQ hE;obtain⟨mg,hg⟩:=S.bs.gl;obtain⟨mb,hm,q⟩:=S.bs.bt;refine Calls.Name_function_global F.kind hk (Calls.loadGlobal_builtin (by rw[F.glob];exact hg) (mg_none_of S.kin hg e) (by rw[F.blt];exact hm) ((q x hne).trans hb) (hQ _ _ σ u _ (Go.refl ..) S ?_ h)) hx;rcases hu with ⟨id,rfl,rfl⟩ | ⟨n,rfl,rfl⟩ <;> (rfl)
theorem qO{op:CmpOp}(hm:behindInMarks op r=false)(h:Ev prog w K d hd env ρ (eval l env) H (BV prog w K d hd env ρ (eval r env) (Ea prog w K d hd (kL op) k kx) kx) kx):
  Ev prog w K d hd env ρ (eval (.Compare l [op] [r] pos) env) H k kx:=by
 intro A σ Z s Q E hA S F hQ hE;refine wpAny_Compare1 (h A σ Z s _ _ hA S F (fun a s1 σ1 x H1 g1 S1 hx hk=>?_) hE) hm;refine hk A σ1 Z s1 _ _ hA S1 (F.go S g1) (fun b s2 σ2 y H2 g2 S2 hy hk2=>?_) (hE.go g1)
 exact hk2 A σ2 Z s2 [a,b] _ _ hA S2 (ak.two (VR.go g2 (fun J h=>nomatch h) _ hx) hy) (hQ.go (g1.trans g2))
  (hE.go (g1.trans g2))
noncomputable def Eb(prog:Program)(w:World)(K:Frag)(d:Nat)(hd:Hd)(env:Env)(ρ:List (Str × V))(t:Sem Bool)(H:Hp)(k:Bool→Hp→Prop)(kx:X→Hp→Prop):Prop:=
 ∀ (A:Around) (σ Z:List Addr) (s:Shared) (Q:Bool→Shared→Prop) (E:Value→Shared→Prop),cF A d hd→St K w.params A σ Z H s→FR w.params σ Z env ρ s.heap→
  (∀ b s' σ' H',Go Z σ [] s σ' s'→St K w.params A σ' Z H' s'→k b H'→Q b s')→
  tu w K A Z σ s kx E→wpAny (model prog w) A t Q E s
noncomputable def Tr(prog:Program)(w:World)(K:Frag)(d:Nat)(hd:Hd)(u:V)(H:Hp)(k:Bool→Hp→Prop)(kx:X→Hp→Prop):Prop:=
 ∀ (A:Around) (σ Z:List Addr) (s:Shared) (v:Value) (Q:Bool→Shared→Prop) (E:Value→Shared→Prop),cF A d hd→St K w.params A σ Z H s→VR w.params s.heap σ Z u v→
  (∀ b s' σ' H',Go Z σ [] s σ' s'→St K w.params A σ' Z H' s'→k b H'→Q b s')→
  tu w K A Z σ s kx E→wpAny (model prog w) A (truthy v) Q E s
variable{kb:Bool→Hp→Prop}
noncomputable abbrev B3(prog:Program)(w:World)(K:Frag)(d:Nat)(hd:Hd)(kb:Bool→Hp→Prop)(kx:X→Hp→Prop)(u:V)(H:Hp):Prop:=Tr prog w K d hd u H kb kx
noncomputable abbrev FI(prog:Program)(w:World)(K:Frag)(d:Nat)(hd:Hd)(env:Env)(ρ:ai)(a b:Sem Value)(k:V→Hp→Prop)(kx:X→Hp→Prop)(c:Bool)(H:Hp):Prop:=match c with | true=>Ev prog w K d hd env ρ a H k kx | false=>Ev prog w K d hd env ρ b H k kx
noncomputable abbrev FK(prog:Program)(w:World)(K:Frag)(d:Nat)(hd:Hd)(env:Env)(ρ:ai)(t:Sem Bool)(kb:Bool→Hp→Prop)(kx:X→Hp→Prop)(b:Bool)(H:Hp):Prop:=match b with | false=>Eb prog w K d hd env ρ t H kb kx | true=>kb true H
noncomputable abbrev FJ(prog:Program)(w:World)(K:Frag)(d:Nat)(hd:Hd)(env:Env)(ρ:ai)(t:Sem Bool)(kb:Bool→Hp→Prop)(kx:X→Hp→Prop)(b:Bool)(H:Hp):Prop:=match b with | true=>Eb prog w K d hd env ρ t H kb kx | false=>kb false H
variable{e:PySem.Expr}
theorem bY(hp:isTrue e env (eval e env)=(do let v←eval e env;standAt e.pos;holding [v] (truthy v)))(h:Ev prog w K d hd env ρ (eval e env) H (B3 prog w K d hd kb kx) kx):Eb prog w K d hd env ρ (isTrue e env (eval e env)) H kb kx:=by
 intro A σ Z s Q E hA S F hQ hE;rw[hp];refine wpAny_bind (h A σ Z s _ _ hA S F (fun v s1 σ1 u H1 g1 S1 hu hk=>wpAny_bind (wpAny_standAt (wpAny_holding ?_))) hE);exact hk A σ1 Z s1 v _ _ hA S1 hu (fun b s' σ' H' g' S'=>hQ b s' σ' H' (g1.trans g') S') (hE.go g1)
variable{whole:Sem Value}
theorem bJ{op:CmpOp}(hm:behindInMarks op r=false)(h:Ev prog w K d hd env ρ (eval l env) H (BV prog w K d hd env ρ (eval r env) (Ea prog w K d hd (kL op) (B3 prog w K d hd kb kx) kx) kx) kx):Eb prog w K d hd env ρ (isTrue (.Compare l [op] [r] pos) env whole) H kb kx:=by
 intro A σ Z s Q E hA S F hQ hE;refine wpAny_isTrue_Compare1 (h A σ Z s _ _ hA S F (fun a s1 σ1 x H1 g1 S1 hx hk=>?_) hE) hm;refine hk A σ1 Z s1 _ _ hA S1 (F.go S g1) (fun b s2 σ2 y H2 g2 S2 hy hk2=>?_) (hE.go g1)
 refine hk2 A σ2 Z s2 [a,b] _ _ hA S2 (ak.two (VR.go g2 (fun J h=>nomatch h) _ hx) hy) (fun v s3 σ3 u H3 g3 S3 hu hk3=>?_)
  (hE.go (g1.trans g2))
 exact hk3 A σ3 Z s3 v _ _ hA S3 hu (fun b s' σ' H' g' S'=>hQ b s' σ' H' (g1.trans (g2.trans (g3.trans g'))) S') (fun e s' σ' x H' g' S' hx=>hE e s' σ' x H' (g1.trans (g2.trans (g3.trans g'))) S' (hx.old (g1.trans (g2.trans g3))))
theorem z6(h:Eb prog w K d hd env ρ (isTrue e env (eval e env)) H (fun b H'=>kb (!b) H') kx):
  Eb prog w K d hd env ρ (isTrue (.UnaryOp .Not e pos) env whole) H kb kx:=by
 intro A σ Z s Q E hA S F hQ hE;rw[arm_isTrue_UnaryOp];exact wpAny_bind (h A σ Z s _ _ hA S F (fun b s1 σ1 H1 g1 S1 hk=>wpAny_pure (hQ _ s1 σ1 H1 g1 S1 hk)) hE)
variable{es:List PySem.Expr}
theorem vw{op:PySem.BoolOp}(h:Eb prog w K d hd env ρ (allTrue op es env) H kb kx):
  Eb prog w K d hd env ρ (isTrue (.BoolOp op es pos) env whole) H kb kx:=h
theorem iQ{op:PySem.BoolOp}(h:kb (op== .And) H):Eb prog w K d hd env ρ (allTrue op [] env) H kb kx:=by
 intro A σ Z s Q E hA S F hQ hE;exact wpAny_pure (hQ _ s σ H (Go.refl ..) S h)
theorem iR(h:Eb prog w K d hd env ρ (isTrue e env (eval e env)) H (FJ prog w K d hd env ρ (allTrue .And es env) kb kx) kx):
  Eb prog w K d hd env ρ (allTrue .And (e::es) env) H kb kx:=by
 intro A σ Z s Q E hA S F hQ hE;rw[arm_allTrue_cons];refine wpAny_bind (h A σ Z s _ _ hA S F (fun b s1 σ1 H1 g1 S1 hk=>?_) hE);cases b with
 | false=>exact wpAny_pure (hQ _ s1 σ1 H1 g1 S1 hk)
 | true=>exact hk A σ1 Z s1 _ _ hA S1 (F.go S g1) (fun b s' σ' H' g' S'=>hQ b s' σ' H' (g1.trans g') S') (hE.go g1)
theorem ib(h:Eb prog w K d hd env ρ (isTrue e env (eval e env)) H (FK prog w K d hd env ρ (allTrue .Or es env) kb kx) kx):
  Eb prog w K d hd env ρ (allTrue .Or (e::es) env) H kb kx:=by
 intro A σ Z s Q E hA S F hQ hE;rw[arm_allTrue_cons];refine wpAny_bind (h A σ Z s _ _ hA S F (fun b s1 σ1 H1 g1 S1 hk=>?_) hE);cases b with
 | true=>exact wpAny_pure (hQ _ s1 σ1 H1 g1 S1 hk)
 | false=>exact hk A σ1 Z s1 _ _ hA S1 (F.go S g1) (fun b s' σ' H' g' S'=>hQ b s' σ' H' (g1.trans g') S') (hE.go g1)
variable{t:PySem.Expr}
theorem B7{a b:PySem.Expr}(h:Eb prog w K d hd env ρ (isTrue t env (eval t env)) H (FI prog w K d hd env ρ (eval a env) (eval b env) k kx) kx):
  Ev prog w K d hd env ρ (eval (.IfExp t a b pos) env) H k kx:=by
 intro A σ Z s Q E hA S F hQ hE;rw[arm_eval_IfExp];refine wpAny_bind (h A σ Z s _ _ hA S F (fun c s1 σ1 H1 g1 S1 hk=>?_) hE)
 have fin:∀ e,Ev prog w K d hd env ρ (eval e env) H1 k kx→wpAny (model prog w) A (eval e env) Q E s1:=fun e he=>
  he A σ1 Z s1 _ _ hA S1 (F.go S g1) (hQ.go g1) (hE.go g1)
 cases c with
 | true=>exact fin _ hk
 | false=>exact fin _ hk
noncomputable def Es(prog:Program)(w:World)(K:Frag)(d:Nat)(hd:Hd)(env:Env)(ρ:List (Str × V))(t:Sem (List Value))(H:Hp)(k:List V→Hp→Prop)(kx:X→Hp→Prop):Prop:=
 ∀ (A:Around) (σ Z:List Addr) (s:Shared) (Q:List Value→Shared→Prop) (E:Value→Shared→Prop),cF A d hd→St K w.params A σ Z H s→FR w.params σ Z env ρ s.heap→
  (∀ vs s' σ' xs H',Go Z σ [] s σ' s'→St K w.params A σ' Z H' s'→ak w.params s'.heap σ' Z xs vs→k xs H'→Q vs s')→
  tu w K A Z σ s kx E→wpAny (model prog w) A t Q E s
variable{ks:List V→Hp→Prop}
noncomputable abbrev FG(u:V)(ks:List V→Hp→Prop)(us:List V)(H:Hp):Prop:=ks (u::us) H
noncomputable abbrev Ee(prog:Program)(w:World)(K:Frag)(d:Nat)(hd:Hd)(env:Env)(ρ:ai)(t:Sem (List Value))(ks:List V→Hp→Prop)(kx:X→Hp→Prop)(u:V)(H:Hp):Prop:=Es prog w K d hd env ρ t H (FG u ks) kx
inductive B4 (k:V→Hp→Prop) (us:List V) (H:Hp):Prop
 | mk:us.length≤1000→k (.tup us) H→B4 k us H
inductive B1 (k:V→Hp→Prop) (us:List V) (H:Hp):Prop
 | mk:us.length≤1000→k (.lst us) H→B1 k us H
inductive B2 (k:V→Hp→Prop) (us:List V) (H:Hp):Prop
 | mk:us.length≤1000→k (.ob H.length) (H++[.l us])→B2 k us H
theorem z8(h:ks [] H):Es prog w K d hd env ρ (spliced []) H ks kx:=by
 intro A σ Z s Q E hA S F hQ hE;exact Calls.spliced_nil (hQ [] s σ [] H (Go.refl ..) S ak.nil h)
theorem xA{x:Sem Value}{rest:List (Bool × Sem Value)}(h:Ev prog w K d hd env ρ x H (Ee prog w K d hd env ρ (spliced rest) ks kx) kx):
  Es prog w K d hd env ρ (spliced ((false,x)::rest)) H ks kx:=by
 intro A σ Z s Q E hA S F hQ hE;refine Calls.spliced_cons (h A σ Z s _ _ hA S F (fun v s1 σ1 u H1 g1 S1 hu hk=>?_) hE)
 exact hk A σ1 Z s1 _ _ hA S1 (F.go S g1) (fun vs s' σ' us H' g' S' hus hk'=>hQ _ s' σ' (u::us) H' (g1.trans g') S' (by exact⟨v,vs,rfl,VR.go g' (fun J h=>nomatch h) _ hu,hus⟩) hk')
  (hE.go g1)
variable{kx:X→Hp→Prop}
theorem St.sd(S:St K P A σ Z H s)(h:a∈σ):∃ o,s.heap.get? a=some o:=by
 obtain⟨i,hi,e⟩:=List.getElem_of_mem h;have hl:i < H.length:=S.len▸hi;refine ab (fun b e1 q=>?_) (S.hr i H[i] (List.getElem?_eq_getElem hl));rw[List.getElem?_eq_getElem hi,e] at e1;exists e1;exact q.ex
theorem St.size(S:St K P A σ Z H s):378≤s.heap.objs.size:=by
 refine af (fun o e=>?_) (S.bs.low 377 (by decide));exact Heap.lt_size e
theorem Go.push(Z σ:List Addr)(s:Shared)(o:Obj)(t:Nat):Go Z σ [] s σ {s with heap:=s.heap.push o,toks:=t}:=
 .of ⟨fun J J e J J J=>Heap.get?_push_of_some _ e,fun J o' e=>⟨o',Heap.get?_push_of_some _ e,fun h=>h⟩,⟨[],by walk_at "s",fun J h=>nomatch h⟩,rfl,rfl⟩
theorem St.push(S:St K P A σ Z H s)(o:Obj)(t:Nat):St K P A σ Z H {s with heap:=s.heap.push o,toks:=t}:=
 S.go (Go.push Z σ s o t) (fun J h=>nomatch h) fun J J J e=>Heap.get?_push_of_some _ e
theorem St.fresh(S:St K P A σ Z H s):Fz σ Z s.heap.objs.size:=
 ⟨S.size,fun h=>by refine af (fun o e=>?_) (S.sd h);exact absurd (Heap.lt_size e) (Nat.lt_irrefl _),fun h=>by refine af (fun o e=>?_) (S.zd _ h);exact absurd (Heap.lt_size e) (Nat.lt_irrefl _)⟩
theorem ak.length{P:Params}{h:Heap}{σ Z:List Addr}:∀ {l:List V} {vs:List Value},ak P h σ Z l vs→l.length=vs.length
 | [],_,h=>by rw[h];rfl
 | _::_,_,h=>by revert h;refine aV fun v r q t=>?_;obtain rfl:=q;revert t;refine am fun J hl=>?_;rw[List.length_cons,List.length_cons,ak.length hl]
variable{us:List V}
theorem ww(S:St K P A σ Z H s)(hv:ak P s.heap σ Z us vs)(hl:us.length≤1000)(hQ:∀ v s',Go Z σ [] s σ s'→St K P A σ Z H s'→VR P s'.heap σ Z (.lst us) v→Q v s'):wpAny (model prog w) A (newList vs) Q E s:=by
 refine wpAny_newObj_type (hQ _ {s with heap:=s.heap.push {cls:=.type "list",data:=.seq vs.toArray}} (Go.push Z σ s _ s.toks) (S.push _ s.toks) ?_) (by show vs.toArray.size≤sizeLine;rw[List.size_toArray,←hv.length];exact Nat.le_trans hl (by decide));refine⟨_,vs.toArray,rfl,S.fresh,⟨0,Heap.get?_push_size _ rfl⟩,?_⟩;exact ak.go (Go.push Z σ s _ s.toks) (fun J h=>nomatch h) us hv
theorem uq(S:St K P A σ Z H s)(hv:ak P s.heap σ Z us vs)(hl:us.length≤1000)(hQ:∀ v s',Go Z σ [] s σ s'→St K P A σ Z H s'→VR P s'.heap σ Z (.tup us) v→Q v s'):wpAny (model prog w) A (newTuple vs) Q E s:=by
 refine wpAny_newObj_type (hQ _ {s with heap:=s.heap.push {cls:=.type "tuple",data:=.seq vs.toArray}} (Go.push Z σ s _ s.toks) (S.push _ s.toks) ?_) (by show vs.toArray.size≤sizeLine;rw[List.size_toArray,←hv.length];exact Nat.le_trans hl (by decide));refine⟨_,vs.toArray,rfl,S.fresh,⟨_,Heap.get?_push_size _ rfl,rfl,0,rfl⟩,?_⟩;exact ak.go (Go.push Z σ s _ s.toks) (fun J h=>nomatch h) us hv
theorem DT(h:Es prog w K d hd env ρ (spliced (backTo pos (starEach es env))) H (B1 k) kx):
  Ev prog w K d hd env ρ (eval (.List es pos) env) H k kx:=by
 intro A σ Z s Q E hA S F hQ hE;refine List_ (h A σ Z s _ _ hA S F (fun vs s1 σ1 us H1 g1 S1 hu hk=>?_) hE);obtain⟨h1,h2⟩:=hk;exact ww S1 hu h1 fun v s' g' S' hv=>hQ v s' σ1 _ H1 (g1.trans g') S' hv h2
theorem vG(h:Es prog w K d hd env ρ (spliced (backTo pos (starEach es env))) H (B4 k) kx):
  Ev prog w K d hd env ρ (eval (.Tuple es n pos) env) H k kx:=by
 intro A σ Z s Q E hA S F hQ hE;refine Tuple_ (h A σ Z s _ _ hA S F (fun vs s1 σ1 us H1 g1 S1 hu hk=>?_) hE);obtain⟨h1,h2⟩:=hk;exact uq S1 hu h1 fun v s' g' S' hv=>hQ v s' σ1 _ H1 (g1.trans g') S' hv h2
noncomputable def ba(x:Str)(u:V)(ρ ρ':List (Str × V)):Prop:=∀ p∈ρ',p=(x,u)∨(p∈ρ∧p.1≠x)
theorem ba.nil:ba x u [] [(x,u)]:=fun p h=>.inl (List.mem_singleton.mp h)
variable{v:V}{r:List (Str × V)}
theorem ba.here(h:r.all (fun p=>p.1 != x)=true):ba x u ((x,v)::r) ((x,u)::r):=fun p hp=>by
 rcases List.mem_cons.mp hp with e | hp
 ·exact .inl e
 ·exact .inr ⟨List.mem_cons_of_mem _ hp,by simpa using (List.all_eq_true.mp h) p hp⟩
variable{y:Str}{r':List (Str × V)}
theorem ba.cons(hne:(y==x)=false)(h:ba x u r r'):ba x u ((y,v)::r) ((y,v)::r'):=fun p hp=>by
 rcases List.mem_cons.mp hp with e | hp
 ·exact .inr ⟨e▸List.mem_cons_self,by rw[e];simpa using hne⟩
 ·rcases h p hp with e | ⟨h1,h2⟩
  ·exact .inl e
  ·exact .inr ⟨List.mem_cons_of_mem _ h1,h2⟩
noncomputable def cN(env:Env):List Addr:=env.locals::env.cells.map (·.2)
noncomputable def own(env:Env):List Addr:=env.locals::(env.cells.filter fun p=>env.kindOf p.1==some .cell).map (·.2)
theorem sW:∀ a∈own env,a∈cN env:=fun a h=>by
 rcases List.mem_cons.mp h with rfl | h
 ·exact List.mem_cons_self
 ·refine ab (fun p hm t=>?_) (List.mem_map.mp h);obtain rfl:=t;exact List.mem_cons_of_mem _ (List.mem_map.mpr ⟨p,(List.mem_filter.mp hm).1,rfl⟩)
theorem pV(h:(x,c)∈env.cells)(k:env.kindOf x=some .cell):c∈own env:=
 List.mem_cons_of_mem _ (List.mem_map.mpr ⟨(x,c),List.mem_filter.mpr ⟨h,by rw[k];rfl⟩,rfl⟩)
theorem sU(h:a∈own env):a=env.locals∨∃ x,(x,a)∈env.cells∧env.kindOf x=some .cell:=by
 rcases List.mem_cons.mp h with rfl | h
 ·exact .inl rfl
 ·refine af (fun q t=>?_) (List.mem_map.mp h);obtain⟨x,c⟩:=q;revert t;refine am fun hm t=>?_;obtain rfl:=t;refine am (fun h1 h2=>?_) (List.mem_filter.mp hm);exact .inr ⟨x,h1,by simpa using h2⟩
theorem FR.celC(F:FR P σ Z env ρ h)(hm:(x,c)∈env.cells)(k:env.kindOf x=some .cell):c∈Z:=
 (F.celZ x c hm).1.elim (fun h=>h) fun⟨_,q⟩=>by rw[k] at q;exists q
theorem FR.ownZ(F:FR P σ Z env ρ h):∀ a∈own env,a∈Z:=by
 intro a ha;rcases sU ha with rfl | ⟨x,hm,k⟩
 ·exact F.locZ
 ·exact F.celC hm k
noncomputable def nJ(x:Str):Prop:=(x==("__debug__":Str))=false∧(x==("__classdict__":Str))=false
theorem ba.drop{p:Str × V}(h:ba x u r r'):ba x u (p::r) r':=fun q hq=>(h q hq).imp (fun e=>e) fun⟨h1,h2⟩=>⟨List.mem_cons_of_mem _ h1,h2⟩
theorem ba.last:ba x u r [(x,u)]:=fun J h=>.inl (List.mem_singleton.mp h)
noncomputable def BP(env:Env)(X:List Addr)(x:Str):Prop:=(env.kindOf x=some .local∧env.locals∈X)∨(env.kindOf x=some .cell∧∀ c,env.cells.lookup x=some c→c∈X)
variable{v:Value}{Q:Unit→Shared→Prop}
theorem eN{ρ':List (Str × V)}(S:St K P A σ Z H s)(F:FR P σ Z env ρ s.heap)(hv:VR P s.heap σ Z u v){X:List Addr}(hp:ba x u ρ ρ')(hpl:nJ x)(hx:BP env X x)(hX:∀ a∈X,a∈own env)(hQ:∀ s',Go Z σ X s σ s'→St K P A σ Z H s'→FR P σ Z env ρ' s'.heap→Q () s'):wpAny (model prog w) A (storeName env x v) Q E s:=by
 have hXZ:∀ a∈X,a∈Z:=fun a h=>F.ownZ a (hX a h);have hcl:(env.scope.kind== .class || (env.scope.kind== .module&&env.locals != env.globals))=false:=by rw[F.kind];rfl
 have hplain:∀ y u',(y,u')∈ρ'→(y==("__debug__":Str))=false∧(y==("__classdict__":Str))=false:=fun y u' h=>by
  rcases hp _ h with e | ⟨h1,_⟩
  ·exists e;exact hpl
  ·exact F.plain y u' h1
 rcases hx with ⟨hl,hlX⟩ | ⟨hc,hcX⟩
 ·obtain⟨m,hm,q⟩:=F.ns;refine wpAny_storeName_local hl hm (fun h' hn hs=>?_) hcl
  have g:Go Z σ X s σ {s with heap:=h',toks:=s.toks+1}:=by
   refine .of ⟨fun b o e J J hb=>(hs.2 b fun q=>hb (q▸hlX)).trans e,fun b o e=>?_,⟨[],by walk_at "s",fun J h=>nomatch h⟩,rfl,rfl⟩
   by_cases hb:b=env.locals
   ·subst hb;refine ab (fun o' e' hd'=>?_) (jT hn);exact⟨o',e',fun J=>hd'⟩
   ·exact⟨o,(hs.2 b hb).trans e,fun h=>h⟩
  have S':=S.go g hXZ fun a o ha e=>(hs.2 a fun q=>S.apt a ha (q▸F.locZ)).trans e;refine hQ _ g S' ⟨F.kind,F.glob,F.blt,⟨_,hn,fun y u' e1 e2=>?_⟩,fun y u' e1 e2=>?_,fun y u' e1=>?_,F.locZ,F.celZ,F.one,fun y c e=>?_,hplain,F.celD⟩
  rotate_left 3
  ·refine af (fun o hc=>?_) (F.cex y c e);exact⟨o,cK hc fun o e'=>(hs.2 c (F.celZ y c e).2).trans e'⟩
  ·rcases hp _ e1 with e | ⟨h1,hy⟩
   ·exists e;exact⟨v,by walk_at "s",VR.go g hXZ _ hv⟩
   ·refine ab (fun v' e3 hr=>?_) (q y u' h1 e2);have hy':y≠x:=hy;exact⟨v',by simp[hy',e3],VR.go g hXZ _ hr⟩
  ·rcases hp _ e1 with e | ⟨h1,hy⟩
   ·exists e;rw[hl] at e2;rcases e2 with e2 | e2 <;> exists e2
   ·refine ee (fun c v' e3 hcell hr=>?_) (F.cell y u' h1 e2);exact⟨c,v',e3,cK hcell fun o e=>(hs.2 c (F.celZ y c (mem_of_lookup e3)).2).trans e,VR.go g hXZ _ hr⟩
  ·rcases hp _ e1 with e | ⟨h1,hy⟩
   ·exists e;exact .inl hl
   ·exact F.all y u' h1
 ·refine af (fun c e1=>?_) (Option.isSome_iff_exists.mp (F.celD x (.inl hc)));have hcm:=mem_of_lookup e1;refine af (fun oc e2=>?_) (F.cex x c hcm);refine wpAny_storeName_cell F.kind hc e1 e2 fun h' hn hs=>?_
  have g:Go Z σ X s σ {s with heap:=h'}:=by
   refine .of ⟨fun b o e J J hb=>(hs.2 b fun q=>hb (q▸hcX c e1)).trans e,fun b o e=>?_,⟨[],by walk_at "s",fun J h=>nomatch h⟩,rfl,rfl⟩
   by_cases hb:b=c
   ·subst hb
    revert hn;refine ab fun o' ho' J=>?_
    revert e2;refine ab fun o2 ho2 hd2=>?_
    rw[ho2] at e;exists e;exact⟨o',ho',fun h=>by unfold cT at h;rw[hd2] at h;exists h⟩
   ·exact⟨o,(hs.2 b hb).trans e,fun h=>h⟩
  have S':=S.go g hXZ fun a o ha e=>(hs.2 a fun q=>S.apt a ha (q▸F.celC hcm hc)).trans e;refine hQ _ g S' ⟨F.kind,F.glob,F.blt,?_,fun y u' e3 e4=>?_,fun y u' e3=>?_,F.locZ,F.celZ,F.one,fun y c' e=>?_,hplain,F.celD⟩
  rotate_left 3
  ·by_cases q:c'=c
   ·subst q;exact⟨_,hn⟩
   ·refine af (fun o hc=>?_) (F.cex y c' e);exact⟨o,cK hc fun o e'=>(hs.2 c' q).trans e'⟩
  ·obtain⟨m,hm,q⟩:=F.ns;refine⟨m,CR hm fun o e=>(hs.2 _ (Ne.symm (F.celZ x c hcm).2)).trans e,fun y u' e3 e4=>?_⟩;rcases hp _ e3 with e | ⟨h1,hy⟩
   ·exists e;rw[hc] at e4;exists e4
   ·refine ab (fun v' e5 hr=>?_) (q y u' h1 e4);exact⟨v',e5,VR.go g hXZ _ hr⟩
  ·rcases hp _ e3 with e | ⟨h1,hy⟩
   ·exists e;exact⟨c,v,e1,hn,VR.go g hXZ _ hv⟩
   ·refine ee (fun c' v' e5 hcell hr=>?_) (F.cell y u' h1 e4);exact⟨c',v',e5,cK hcell fun o e=>(hs.2 c' fun q=>hy (F.one y x c (q▸mem_of_lookup e5) hcm)).trans e,VR.go g hXZ _ hr⟩
  ·rcases hp _ e3 with e | ⟨h1,hy⟩
   ·exists e;exact .inr (.inl hc)
   ·exact F.all y u' h1
inductive Fl where
 | next | brk | cont | ret (u:V)
noncomputable def zI(P:Params)(h:Heap)(σ Z:List Addr):Fl→Flow→Prop
 | .next,f=>f=.next
 | .brk,f=>f=.brk
 | .cont,f=>f=.cont
 | .ret u,f=>∃ v,f=.ret v∧VR P h σ Z u v
noncomputable def DP(w:World)(K:Frag)(A:Around)(env:Env)(Z σ:List Addr)(s:Shared)(k:Fl→ai→Hp→Prop)(Q:Flow→Shared→Prop):Prop:=
 ∀ f s' σ' fl ρ' H',Go Z σ (own env) s σ' s'→St K w.params A σ' Z H' s'→FR w.params σ' Z env ρ' s'.heap→zI w.params s'.heap σ' Z fl f→k fl ρ' H'→Q f s'
noncomputable def zN(w:World)(K:Frag)(A:Around)(env:Env)(Xw Z σ:List Addr)(s:Shared)(kx:X→ai→Hp→Prop)(E:Value→Shared→Prop):Prop:=
 ∀ e s' σ' x ρ' H',Go Z σ Xw s σ' s'→St K w.params A σ' Z H' s'→FR w.params σ' Z env ρ' s'.heap→lu K w.params A s.heap s' σ' Z H' x e (fun Y=>FR w.params σ' (Y++Z) env ρ' s'.heap)→kx x ρ' H'→E e s'
noncomputable def Ex(prog:Program)(w:World)(K:Frag)(d:Nat)(hd:Hd)(env:Env)(ρ:ai)(t:Sem Flow)(H:Hp)(k:Fl→ai→Hp→Prop)(kx:X→ai→Hp→Prop):Prop:=
 ∀ (A:Around) (σ Z:List Addr) (s:Shared) (Q:Flow→Shared→Prop) (E:Value→Shared→Prop),cF A d hd→St K w.params A σ Z H s→FR w.params σ Z env ρ s.heap→
  DP w K A env Z σ s k Q→
  zN w K A env (own env) Z σ s kx E→wpAny (model prog w) A t Q E s
noncomputable def As(prog:Program)(w:World)(K:Frag)(d:Nat)(hd:Hd)(env:Env)(Xw:List Addr)(ρ:ai)(f:Value→Sem Unit)(u:V)(H:Hp)(k:ai→Hp→Prop)(kx:X→ai→Hp→Prop):Prop:=
 ∀ (A:Around) (σ Z:List Addr) (s:Shared) (v:Value) (Q:Unit→Shared→Prop) (E:Value→Shared→Prop),cF A d hd→St K w.params A σ Z H s→FR w.params σ Z env ρ s.heap→VR w.params s.heap σ Z u v→
  (∀ s' σ' ρ' H',Go Z σ Xw s σ' s'→St K w.params A σ' Z H' s'→FR w.params σ' Z env ρ' s'.heap→k ρ' H'→Q () s')→
  zN w K A env Xw Z σ s kx E→wpAny (model prog w) A (f v) Q E s
noncomputable abbrev nc(ρ:ai)(kx:X→ai→Hp→Prop)(x:X)(H:Hp):Prop:=kx x ρ H
noncomputable abbrev FM(prog:Program)(w:World)(K:Frag)(d:Nat)(hd:Hd)(env:Env)(l:List Stmt)(k:Fl→ai→Hp→Prop)(kx:X→ai→Hp→Prop)(fl:Fl)(ρ:ai)(H:Hp):Prop:=match fl with | .next=>Ex prog w K d hd env ρ (execs l env) H k kx | fl=>k fl ρ H
noncomputable abbrev D8(prog:Program)(w:World)(K:Frag)(d:Nat)(hd:Hd)(env:Env)(ρ:ai)(a b:List Stmt)(k:Fl→ai→Hp→Prop)(kx:X→ai→Hp→Prop)(c:Bool)(H:Hp):Prop:=match c with | true=>Ex prog w K d hd env ρ (execs a env) H k kx | false=>Ex prog w K d hd env ρ (execs b env) H k kx
noncomputable abbrev D9(k:Fl→ai→Hp→Prop)(ρ:ai)(H:Hp):Prop:=k .next ρ H
noncomputable abbrev Fd(ρ:ai)(k:Fl→ai→Hp→Prop)(_:V)(H:Hp):Prop:=k .next ρ H
noncomputable abbrev FF(prog:Program)(w:World)(K:Frag)(d:Nat)(hd:Hd)(env:Env)(ρ:ai)(t:PySem.Expr)(k:Fl→ai→Hp→Prop)(kx:X→ai→Hp→Prop)(u:V)(H:Hp):Prop:=As prog w K d hd env (own env) ρ (assign t env) u H (D9 k) kx
noncomputable abbrev FL(ρ:ai)(k:Fl→ai→Hp→Prop)(u:V)(H:Hp):Prop:=k (.ret u) ρ H
noncomputable abbrev BU(ρ:ai)(ka:ai→Hp→Prop)(_:V)(H:Hp):Prop:=ka ρ H
variable{ρ:ai}{k:Fl→ai→Hp→Prop}{kx:X→ai→Hp→Prop}{ka:ai→Hp→Prop}
variable{σ'':List Addr}{s'':Shared}
theorem Go.seq(g:Go Z σ (own env) s σ' s')(k:Go Z σ' (own env) s' σ'' s''):Go Z σ (own env) s σ'' s'':=g.trans k fun J h=>h
theorem Go.ev(g:Go Z σ [] s σ' s')(k:Go Z σ' (own env) s' σ'' s''):Go Z σ (own env) s σ'' s'':=g.trans k fun J h=>nomatch h
theorem Go.own(g:Go Z σ [] s σ' s'):Go Z σ (own env) s σ' s':=g.wide fun J h=>nomatch h
theorem DP.seq{Q:Flow→Shared→Prop}(h:DP w K A env Z σ s k Q)(g:Go Z σ (own env) s σ1 s1):DP w K A env Z σ1 s1 k Q:=fun f s' σ' fl ρ' H' g'=>h f s' σ' fl ρ' H' (g.seq g')
theorem zN.seq(h:zN w K A env (own env) Z σ s kx E)(g:Go Z σ (own env) s σ1 s1):zN w K A env (own env) Z σ1 s1 kx E:=fun e s' σ' x ρ' H' g' S' F' hx=>h e s' σ' x ρ' H' (g.seq g') S' F' (hx.old g)
theorem zN.to{Xw:List Addr}(h:zN w K A env Xw Z σ s kx E)(S:St K w.params A σ Z H s)(F:FR w.params σ Z env ρ s.heap):tu w K A Z σ s (nc ρ kx) E:=
 fun e s' σ' x H' g' S' hx hk=>h e s' σ' x ρ H' (g'.wide fun J h=>nomatch h) S' (F.go S g') (hx.fr F S g') hk
noncomputable def aG(sc:Scope)(x:Str):Bool:=(sc.names.lookup x==some .local || sc.names.lookup x==some .cell)&&((x==("__debug__":Str))==false&&(x==("__classdict__":Str))==false)
variable{sc:Scope}
theorem aG.plain(h:aG sc x=true):nJ x:=by
 unfold aG at h;rw[Bool.and_eq_true,Bool.and_eq_true] at h;exact⟨eq_of_beq h.2.1,eq_of_beq h.2.2⟩
structure Sc(env:Env)(sc:Scope)(Xw:List Addr):Prop where
 glob:∀ x,sc.names.lookup x=some .globalImplicit→env.kindOf x=some .globalImplicit
 wr:∀ x,aG sc x=true→BP env Xw x
 cf:∀ x,sc.names.lookup x=some .cell∨sc.names.lookup x=some .free→env.kindOf x=some .cell∨env.kindOf x=some .free
 ow:∀ a∈Xw,a∈own env
 loc:∀ x,sc.names.lookup x=some .local→env.kindOf x=some .local
 cel:∀ x,sc.names.lookup x=some .cell→env.kindOf x=some .cell
theorem Sc.own(h:env.scope=sc):Sc env sc (own env):=by
 subst h;refine⟨fun J h=>h,fun x h=>?_,fun J h=>h,fun J h=>h,fun J h=>h,fun J h=>h⟩;unfold aG at h;rw[Bool.and_eq_true,Bool.or_eq_true] at h;rcases h.1 with q | q
 ·exact .inl ⟨eq_of_beq q,List.mem_cons_self⟩
 ·exact .inr ⟨eq_of_beq q,fun c hc=>pV (mem_of_lookup hc) (eq_of_beq q)⟩
variable{ρ':ai}
theorem ad{Xw:List Addr}(hsc:Sc env sc Xw)(hok:aG sc x=true)(hp:ba x u ρ ρ')(h:ka ρ' H):
  As prog w K d hd env Xw ρ (assign (.Name x pos) env) u H ka kx:=by
 intro A σ Z s v Q E hA S F hv hQ hE;rw[arm_assign_Name];exact wpAny_bind (wpAny_standAt (wpAny_bindName (eN S F hv hp (aG.plain hok) (hsc.wr x hok) hsc.ow fun s' g' S' F'=>hQ s' σ _ H g' S' F' h)))
theorem an(h:k .next ρ H):Ex prog w K d hd env ρ (execs [] env) H k kx:=by
 intro A σ Z s Q E hA S F hQ hE;exact wpAny_execs_nil (hQ _ s σ .next ρ H (Go.refl ..) S F rfl h)
theorem aw{st:Stmt}{r:List Stmt}(h:Ex prog w K d hd env ρ (exec st env) H (FM prog w K d hd env r k kx) kx):
  Ex prog w K d hd env ρ (execs (st::r) env) H k kx:=by
 intro A σ Z s Q E hA S F hQ hE;refine wpAny_execs_cons (h A σ Z s _ _ hA S F (fun f s1 σ1 fl ρ1 H1 g1 S1 F1 hf hk=>?_) hE);cases fl with
 | next=>
  have e:f=.next:=hf;subst e;exact hk A σ1 Z s1 _ _ hA S1 F1 (hQ.seq g1) (hE.seq g1)
 | brk=>have e:f=.brk:=hf;subst e;exact hQ _ s1 σ1 .brk ρ1 H1 g1 S1 F1 rfl hk
 | cont=>have e:f=.cont:=hf;subst e;exact hQ _ s1 σ1 .cont ρ1 H1 g1 S1 F1 rfl hk
 | ret u=>
  revert hf;refine ab fun v q hv=>?_;obtain rfl:=q
  exact hQ _ s1 σ1 (.ret u) ρ1 H1 g1 S1 F1 ⟨v,rfl,hv⟩ hk
theorem tX(h:Ev prog w K d hd env ρ (eval e env) H (FL ρ k) (nc ρ kx)):
  Ex prog w K d hd env ρ (exec (.Return (some e) pos) env) H k kx:=by
 intro A σ Z s Q E hA S F hQ hE;exact wpAny_Return_some (h A σ Z s _ _ hA S F (fun v s' σ' u H' g' S' hu hk=>hQ _ s' σ' (.ret u) ρ H' g'.own S' (F.go S g') ⟨v,rfl,hu⟩ hk) (hE.to S F))
theorem xL(hi:interactive env=false)(hs:swapsWith e none pos.line env=pure false)(h:Ev prog w K d hd env ρ (eval e env) H (Fd ρ k) (nc ρ kx)):
  Ex prog w K d hd env ρ (exec (.Expr e pos) env) H k kx:=by
 intro A σ Z s Q E hA S F hQ hE;exact wpAny_Expr_any (h A σ Z s _ _ hA S F (fun v s' σ' u H' g' S' hu hk=>hQ _ s' σ' .next ρ H' g'.own S' (F.go S g') rfl hk) (hE.to S F)) hi hs
theorem vH(h:k .brk ρ H):Ex prog w K d hd env ρ (exec (.Break pos) env) H k kx:=by
 intro A σ Z s Q E hA S F hQ hE;rw[arm_exec_Break];exact wpAny_bind (wpAny_standAt (wpAny_pure (hQ _ s σ .brk ρ H (Go.refl ..) S F rfl h)))
theorem Fe{a b:List Stmt}(h:Eb prog w K d hd env ρ (isTrue t env (eval t env)) H (D8 prog w K d hd env ρ a b k kx) (nc ρ kx)):
  Ex prog w K d hd env ρ (exec (.If t a b pos) env) H k kx:=by
 intro A σ Z s Q E hA S F hQ hE;refine wpAny_If (h A σ Z s _ _ hA S F (fun c s1 σ1 H1 g1 S1 hk=>?_) (hE.to S F))
 have fin:∀ l,Ex prog w K d hd env ρ (execs l env) H1 k kx→wpAny (model prog w) A (execs l env) Q E s1:=fun l hl=>
  hl A σ1 Z s1 _ _ hA S1 (F.go S g1) (hQ.seq g1.own) (hE.seq g1.own)
 cases c with
 | true=>rw[if_pos rfl];exact fin _ hk
 | false=>rw[if_neg (by decide)];exact fin _ hk
theorem fA(hs:swapsWithSole [t] e pos.line env=pure false)(hw:swappedStores [t] e env=pure none)(ht:assignEach [t] env=[(false,assign t env)])(h:Ev prog w K d hd env ρ (eval e env) H (FF prog w K d hd env ρ t k kx) (nc ρ kx)):
  Ex prog w K d hd env ρ (exec (.Assign [t] e pos) env) H k kx:=by
 intro A σ Z s Q E hA S F hQ hE;refine wpAny_Assign_stores (h A σ Z s _ _ hA S F (fun v s1 σ1 u H1 g1 S1 hu hk=>?_) (hE.to S F)) hs hw;rw[ht];exact hk A σ1 Z s1 v _ _ hA S1 (F.go S g1) hu (fun s' σ' ρ' H' g' S' F' hk'=>hQ _ s' σ' .next ρ' H' (g1.ev g') S' F' rfl hk') (hE.seq g1.own)
variable{k:V→Hp→Prop}{kx:X→Hp→Prop}
noncomputable def Fl.val:Fl→V
 | .ret u=>u
 | _=>.none
noncomputable abbrev z3(k:V→Hp→Prop)(fl:Fl)(_:ai)(H:Hp):Prop:=k fl.val H
noncomputable abbrev vf(kx:X→Hp→Prop)(x:X)(_:ai)(H:Hp):Prop:=kx x H
theorem nb(kindOf:Str→Option NameKind):∀ (ns:List Str) (vs:List Value) (m:Str→Option Value) (x:Str) (i:Nat) (v:Value),ns.Nodup→ns[i]? =some x→vs[i]? =some v→kindOf x=some .local→bindL kindOf (ns.zip vs) m x=some v
 | [],_,_,_,_=>fun J J h J J=>by simp at h
 | n::ns,[],_,_,_=>fun J J J h J=>by simp at h
 | n::ns,v'::vs,m,x,0=>fun v hn h1 h2 hk=>by
  simp only[List.getElem?_cons_zero,Option.some.injEq] at h1 h2;subst h1 h2;rw[List.zip_cons_cons];rw[bindL];rw[if_pos hk]
  have keep:∀ (l:List (Str × Value)) (m:Str→Option Value),(∀ p∈l,p.1≠n)→bindL kindOf l m n=m n:=by
   intro l
   induction l with
   | nil=>intro m J;rfl
   | cons p r ih=>
    intro m hp;obtain⟨y,u⟩:=p;rw[bindL];rw[ih _ fun p h=>hp p (List.mem_cons_of_mem _ h)];split
    ·exact if_neg fun e:n=y=>hp (y,u) List.mem_cons_self e.symm
    ·rfl
  rw[keep _ _ fun p hp e=>(List.nodup_cons.mp hn).1 (e▸(List.of_mem_zip hp).1)];walk_at "s"
 | n::ns,v'::vs,m,x,i+1=>fun v hn h1 h2 hk=>by
  rw[List.zip_cons_cons];rw[bindL];simp only[List.getElem?_cons_succ] at h1 h2;exact nb kindOf ns vs _ x i v (List.nodup_cons.mp hn).2 h1 h2 hk
theorem na(kindOf:Str→Option NameKind):∀ (ns:List Str) (vs:List Value) (m:Str→Option Value) (x:Str) (i:Nat) (v:Value),ns.Nodup→ns[i]? =some x→vs[i]? =some v→kindOf x≠some .local→bindC kindOf (ns.zip vs) m x=some v
 | [],_,_,_,_=>fun J J h J J=>by simp at h
 | n::ns,[],_,_,_=>fun J J J h J=>by simp at h
 | n::ns,v'::vs,m,x,0=>fun v hn h1 h2 hk=>by
  simp only[List.getElem?_cons_zero,Option.some.injEq] at h1 h2;subst h1 h2;rw[List.zip_cons_cons];rw[bindC];rw[if_neg hk]
  have keep:∀ (l:List (Str × Value)) (m:Str→Option Value),(∀ p∈l,p.1≠n)→bindC kindOf l m n=m n:=by
   intro l
   induction l with
   | nil=>intro m J;rfl
   | cons p r ih=>
    intro m hp;obtain⟨y,u⟩:=p;rw[bindC];rw[ih _ fun p h=>hp p (List.mem_cons_of_mem _ h)];split
    ·rfl
    ·exact if_neg fun e:n=y=>hp (y,u) List.mem_cons_self e.symm
  rw[keep _ _ fun p hp e=>(List.nodup_cons.mp hn).1 (e▸(List.of_mem_zip hp).1)];walk_at "s"
 | n::ns,v'::vs,m,x,i+1=>fun v hn h1 h2 hk=>by
  rw[List.zip_cons_cons];rw[bindC];simp only[List.getElem?_cons_succ] at h1 h2;exact na kindOf ns vs _ x i v (List.nodup_cons.mp hn).2 h1 h2 hk
theorem lp{α:Type}:∀ (ns:List Str) (xs:List α) (x:Str) (u:α),(x,u)∈ns.zip xs→∃ i:Nat,ns[i]? =some x∧xs[i]? =some u
 | [],_=>fun J J h=>by simp at h
 | _::_,[]=>fun J J h=>by simp at h
 | n::ns,y::xs=>fun x u h=>by
  rw[List.zip_cons_cons] at h;rcases List.mem_cons.mp h with e | h
  ·exists e;exact⟨0,rfl,rfl⟩
  ·refine ab (fun i h1 h2=>?_) (lp ns xs x u h);exact⟨i+1,h1,h2⟩
theorem ak.get{P:Params}{h:Heap}{σ Z:List Addr}:∀ {l:List V} {vs:List Value} {i:Nat} {u:V},ak P h σ Z l vs→l[i]? =some u→∃ v,vs[i]? =some v∧VR P h σ Z u v
 | [],_,_,_,_,e=>by simp at e
 | x::l,_,0,u,H,e=>by
  revert H;refine aV fun v r q t=>?_;obtain rfl:=q;revert t;refine am fun hx J=>?_
  simp only[List.getElem?_cons_zero,Option.some.injEq] at e;subst e;exact⟨v,rfl,hx⟩
 | x::l,_,i+1,u,H,e=>by
  revert H;refine aV fun v r q t=>?_;obtain rfl:=q;revert t;refine am fun J hl=>?_
  refine ab (fun v' e' hr=>?_) (ak.get (i:=i) hl (by simpa using e));exact⟨v',by simpa using e',hr⟩
theorem St.hop{A':Around}{Z1 Z2:List Addr}(S:St K P A σ Z1 H s)(hk:∀ b o,b∉Z1→s.heap.get? b=some o→s'.heap.get? b=some o)(hz:∀ a∈Z2,378≤a∧a∉σ∧∃ o,s'.heap.get? a=some o)(hn:∀ b o,s.heap.get? b=some o→b∉Z1→b∉Z2)(hg:s'.gens=s.gens)(hfr:gC A' Z2 s'.heap)(hh:A'.handled=A.handled:=by rfl):St K P A' σ Z2 H s':=by
 have low:∀ a o,a < 378→s.heap.get? a=some o→s'.heap.get? a=some o:=fun a o hl e=>hk a o (fun h=>absurd (S.kz a h) (Nat.not_le.mpr hl)) e;have hf:∀ a o,Fz σ Z1 a→s.heap.get? a=some o→s'.heap.get? a=some o∧Fz σ Z2 a:=fun a o f e=>⟨hk a o f.nz e,f.lo,f.ns,hn a o e f.nz⟩;refine⟨fun a o e=>low a o (S.kb a o e).1 (S.kin a o e),S.kb,⟨?_,?_,?_,fun a ha=>?_⟩,S.ks,fun a h=>(hz a h).1,fun a h=>(hz a h).2.2,S.len,S.nd,fun a h q=>(hz a q).2.1 h,fun r l e=>?_,hg.trans S.gens,hfr,S.tb.tr hf (low _ · (by decide)),S.hx.tr hh hf⟩
 ·obtain⟨mg,o,es,ep,e,r⟩:=S.bs.gl;exact⟨mg,o,es,ep,low _ _ (by decide) e,r⟩
 ·obtain⟨mb,⟨o,es,ep,e,r⟩,q⟩:=S.bs.bt;exact⟨mb,⟨o,es,ep,low _ _ (by decide) e,r⟩,q⟩
 ·obtain⟨mc,⟨o,es,ep,e,r⟩,q⟩:=S.bs.lim;exact⟨mc,⟨o,es,ep,low _ _ (by decide) e,r⟩,q⟩
 ·refine af (fun o e=>?_) (S.bs.low a ha);exact⟨o,low a o ha e⟩
 ·refine ab (fun a e1 q=>?_) (S.hr r l e);exact⟨a,e1,q.tr hf (fun J J h=>h) fun o e=>hk a o (S.apart a (List.mem_of_getElem? e1)) e⟩
theorem St.frame{Y:List Addr}(S:St K P A σ Z H s)(g:Go Z σ [] s σ s₁)(hl:∀ a o,a∈σ∨a=cP→s.heap.get? a=some o→s₁.heap.get? a=some o)(hy:∀ a∈Y,s.heap.get? a=none∧378≤a∧∃ o,s₁.heap.get? a=some o):St K P A σ (Y++Z) H s₁:=by
 have S1:=S.go g (fun J h=>nomatch h) hl;have hf:∀ a o,Fz σ Z a→s.heap.get? a=some o→s₁.heap.get? a=some o∧Fz σ (Y++Z) a:=fun a o f e=>⟨g.get (fun J h=>nomatch h) e f,f.grow (fun a h=>(hy a h).1) e⟩;refine⟨S1.kin,S1.kb,S1.bs,S1.ks,fun a ha=>?_,fun a ha=>?_,S1.len,S1.nd,fun a ha hm=>?_,fun r l e=>?_,S1.gens,S1.fr.tr rfl (fun a h=>List.mem_append_right _ h) fun J o J e=>⟨o,e,fun h=>h⟩,S.tb.tr hf fun o e=>hl _ o (.inr rfl) e,S.hx.tr rfl hf⟩
 ·rcases List.mem_append.mp ha with ha | ha
  ·exact(hy a ha).2.1
  ·exact S1.kz a ha
 ·rcases List.mem_append.mp ha with ha | ha
  ·exact(hy a ha).2.2
  ·exact S1.zd a ha
 ·rcases List.mem_append.mp hm with hm | hm
  ·refine af (fun o e=>?_) (S.sd ha);rw[(hy a hm).1] at e;exists e
  ·exact S.apart a ha hm
 ·refine ab (fun a e1 q=>?_) (S.hr r l e);exact⟨a,e1,q.tr hf (fun J J h=>h) fun o e=>hl a o (.inl (List.mem_of_getElem? e1)) e⟩
theorem St.fewer{A':Around}{Z':List Addr}(S:St K P A σ Z' H s)(hz:∀ a∈Z,a∈Z')(hfr:gC A' Z s.heap)(hh:A'.handled=A.handled:=by rfl):St K P A' σ Z H s:=
 S.hop (fun J J J e=>e) (fun a h=>⟨S.kz a (hz a h),fun q=>S.apart a q (hz a h),S.zd a (hz a h)⟩) (fun b o J h q=>h (hz b q)) rfl hfr hh
theorem gC.go{Z':List Addr}{X:List Addr}(x:gC A Z s.heap)(g:Go Z' σ X s σ' s'):gC A Z s'.heap:=x.tr rfl (fun J h=>h) fun b o J e=>g.dom b o e
noncomputable def bz:List (Str × NameKind)→List Str
 | []=>[]
 | (x,k)::r=>if k== .cell then x::bz r else bz r
theorem bK:∀ (names:List (Str × NameKind)) (n:Nat) (acc:List (Str × Addr)),(cellsFrom n names acc).map (·.1)=(bz names).reverse++acc.map (·.1)
 | []=>fun J J=>by simp[cellsFrom,bz]
 | (y,kd)::r=>fun n acc=>by
  rw[cellsFrom,bz]
  by_cases h:kd=.cell
  ·subst h;simp[bK r]
  ·have e:(kd==NameKind.cell)=false:=by simpa using h
   simp[e,bK r]
theorem jm:∀ (l:List (Str × Addr)),(l.map (·.1)).Nodup→∀ x c,(x,c)∈l→l.lookup x=some c
 | []=>fun J J J h=>nomatch h
 | (y,c')::r=>fun hn x c h=>by
  rcases List.mem_cons.mp h with e | h
  ·exists e;simp
  ·have hn':=List.nodup_cons.mp hn;have hne:x≠y:=fun e=>hn'.1 (List.mem_map.mpr ⟨(x,c),h,e⟩);rw[List.lookup_cons,show(x==y)=false by simpa using hne];exact jm r hn'.2 x c h
theorem cL:∀ (l:List (Str × Addr)) (x:Str),x∈l.map (·.1)→(l.lookup x).isSome=true
 | []=>fun J h=>nomatch h
 | (y,c)::r=>fun x h=>by
  rw[List.lookup_cons];cases e:x==y with
  | true=>rfl
  | false=>
   rcases List.mem_cons.mp h with q | h
   ·rw[show x=y from q] at e;simp at e
   ·exact cL r x h
theorem dO:∀ (names:List (Str × NameKind)) (x:Str),names.lookup x=some .cell→x∈bz names
 | []=>fun J h=>by simp at h
 | (y,kd)::r=>fun x h=>by
  rw[List.lookup_cons] at h;rw[bz];cases e:x==y with
  | true=>rw[e] at h;exists h;rw[if_pos (by rfl),show x=y from eq_of_beq e];exact List.mem_cons_self
  | false=>
   rw[e] at h;split
   ·exact List.mem_cons_of_mem _ (dO r x h)
   ·exact dO r x h
noncomputable abbrev uX(l:List Env):List Addr:=l.filterMap (·.frame)
variable{l:List Env}
theorem xQ(x:gC A Z h)(hl:A.frames=some l):∀ L∈uX l,L∈Z∧∃ o,h.get? L=some o∧cT o=true:=fun L hL=>by
 revert x;refine ab fun fl e q=>?_
 rw[hl] at e;exists e;refine ab (fun env he hf=>?_) (List.mem_filterMap.mp hL);obtain⟨_,L',o,h1,h2,h3,h4⟩:=q env he;rw[h1] at hf;exists hf;exact⟨h2,o,h3,h4⟩
theorem lU(h:cT o=true):∀ vs,o.data≠ .fields vs:=fun vs e=>by unfold cT at h;rw[e] at h;exists h
theorem fR{h:Heap}{Z hide:List Addr}:∀ {l:List Env},(∀ env∈l,env.scope.kind≠ .module∧∃ L o,env.frame=some L∧L∈Z∧h.get? L=some o∧cT o=true)→(∀ L∈uX l,L∈hide)→h.FunFrames (hideAll h hide) l
 | []=>fun J J=>trivial
 | env::r=>fun q hh=>by
  obtain⟨hk,L,o,h1,_,h3,h4⟩:=q env List.mem_cons_self
  exact⟨hk,⟨L,o,h1,hideAll_none _ (hh L (List.mem_filterMap.mpr ⟨env,List.mem_cons_self,h1⟩)),h3,lU h4⟩,fR (fun e he=>q e (List.mem_cons_of_mem _ he)) fun L hL=>hh L (by
   refine ab (fun e he hf=>?_) (List.mem_filterMap.mp hL);exact List.mem_filterMap.mpr ⟨e,List.mem_cons_of_mem _ he,hf⟩)⟩
structure rW(hide:List Addr)(h h':Heap)(a:Addr)(cls a0 fl:Value)(v2:Option Value):Prop where
 k1:∀ b o,b∉hide→h.get? b=some o→h'.get? b=some o
 k2:h'.TracedAtW (hideAll h hide) a cls a0 fl
 k3:∀ b o,h.get? b=some o→(∀ vs,o.data≠ .fields vs)→∃ sl,h'.get? b=some {o with slots:=sl}
 k4:∀ oe ws,h'.get? a=some oe→oe.data=.fields ws→ws[2]? =v2
variable{outer:List Env}{vs:Array Value}{hide:List Addr}
theorem nr{M:Model}{L:Addr}{head a0:Value}{hadNext:Bool}(hfr:A.frames=some (env::outer))(hl:s.heap.FunFrames (hideAll s.heap hide) (env::outer))(hf:env.frame=some L)(ha:a∈hide)(hh:∀ b∈uX (env::outer),b∈hide)(he:s.heap.get? a=some o)(hd:o.data=.fields vs)(hsz:1 < vs.size)(h0:vs[0]? =some a0)(hQ:∀ h',rW hide s.heap h' a o.cls a0 (rawInt L) vs[2]? →Q () {s with heap:=h'}):
  wpAny M A (do let fr←frameOf env;let pl←entryPlaceOf L hadNext;let b←EntryCells.newEntry head fr .none (rawInt L) .none pl;setField (.ref a) 1 b) Q E s:=by
 have hene:a∉(env::outer).filterMap (·.frame):=fun hm=>by
  obtain⟨_,o',ho,hnf⟩:=hl.mem hm;rw[he] at ho;exists ho;exact hnf vs hd
 refine wpAny_bind (wpAny_frameOf_fun hfr hl hf fun h₁ hs₁=>?_);refine wpAny_bind (wpAny_entryPlaceOf fun pl hpl=>?_);unfold EntryCells.newEntry newFields;refine wpAny_bind (wpAny_newObj_type ?_ (hpl.sizeOk5 _ _ _ _ _));generalize hO:({cls:=.type "traceback",dict:=none,data:=.fields ([head,.ref L,.none,rawInt L,.none]++(if pl.isEmpty then List.replicate 6 Value.none else pl)).toArray}:Obj)=oN;have he₁:h₁.get? a=some o:=(hs₁.2.1 a hene).trans he;have he₂:=Heap.get?_push_of_some (h:=h₁) oN he₁;have hTe:h₁.objs.size≠a:=Nat.ne_of_gt (Heap.lt_size he₁);have hd₃:=Obj.data_mapFields hd (·.setIfInBounds 1 (Value.ref h₁.objs.size));have he₃:=Heap.get?_update_self (Obj.mapFields (·.setIfInBounds 1 (Value.ref h₁.objs.size))) he₂ (Obj.isFreed_of_fields hd₃)
 have hT₃:((h₁.push oN).update a (Obj.mapFields (·.setIfInBounds 1 (Value.ref h₁.objs.size)))).get? h₁.objs.size=some oN:=
  (Heap.get?_update_other _ _ (Ne.symm hTe)).trans (Heap.get?_push_size _ (by subst hO;rfl))
 have fresh:s.heap.get? h₁.objs.size=none:=by
  cases q:s.heap.get? h₁.objs.size with
  | none=>rfl
  | some o1=>refine af (fun sl e=>?_) (hs₁.2.2 _ o1 q);exact absurd (Heap.lt_size e) (Nat.lt_irrefl _)
 have keep:∀ b o,b≠a→h₁.get? b=some o→((h₁.push oN).update a (Obj.mapFields (·.setIfInBounds 1 (Value.ref h₁.objs.size)))).get? b=some o:=fun b o hb e=>
  (Heap.get?_update_other _ _ (Ne.symm hb)).trans (Heap.get?_push_of_some _ e)
 refine wpAny_setField he₂ hd hsz (hQ _ ⟨fun b o hb e=>keep b o (fun q=>hb (q▸ha)) ((hs₁.2.1 b fun q=>hb (hh b q)).trans e),⟨_,_,h₁.objs.size,oN,([head,.ref L,.none,rawInt L,.none]++(if pl.isEmpty then List.replicate 6 Value.none else pl)).toArray,he₃,⟨Obj.cls_mapFields _ _,?_⟩,hd₃,by simp[hsz],?_,hTe,hT₃,by subst hO;rfl,by walk_at "s"⟩,fun b o hb hnf=>?_,fun oe ws h1 h2=>?_⟩)
 ·rw[Array.getElem?_setIfInBounds_ne (by decide)];exact h0
 ·by_cases hm:h₁.objs.size∈hide
  ·exact hideAll_none _ hm
  ·cases q:(hideAll s.heap hide).get? h₁.objs.size with
   | none=>rfl
   | some o1=>have:=of_hideAll _ q;rw[fresh] at this;exists this
 ·refine af (fun sl e=>?_) (hs₁.2.2 b o hb);exact⟨sl,keep b _ (fun q=>by rw[q,he] at hb;exists hb;exact hnf vs hd) e⟩
 ·rw[he₃] at h1;exists h1;rw[hd₃] at h2;exists h2;exact Array.getElem?_setIfInBounds_ne (by decide)
inductive nY (K:Frag) (P:Params) (A:Around) (h0:Heap) (s:Shared) (σ Z:List Addr) (H:Hp) (x:X) (e:Value) (fl:Value) (G:List Addr→Prop):Prop
 | mk (a:Addr) (Y:List Addr) (o:Obj) (fs:Array Value) (t:Addr) (vs:Array Value):e=.ref a→a∈Y→(∀ b∈Y,h0.get? b=none)→St K P A σ (Y++Z) H s→s.heap.get? a=some o→o.cls=.type x.cls→o.data=.fields fs→fs[0]? =some (.ref t)→Fz σ (Y++Z) t→s.heap.IsTuple t vs→ak P s.heap σ (Y++Z) x.args vs.toList→
  D5 s fs a Y fl→(∃ c,fs[2]? =some c∧Cx s.heap σ (Y++Z) c)→G Y→nY K P A h0 s σ Z H x e fl G
variable{e fl:Value}
theorem nY.xr{x:X}{G:List Addr→Prop}(q:nY K P A h0 s σ Z H x e fl G):lu K P A h0 s σ Z H x e G:=by
 obtain⟨a,Y,o,fs,t,vs,e1,e2,e3,e4,e5,e6,e7,e8,e9,e10,e11,r,e13,e14⟩:=q;exact⟨a,Y,o,fs,t,vs,e1,e2,e3,e4,e5,e6,e7,e8,e9,e10,e11,.inr ⟨fl,r⟩,e13,e14⟩
theorem iE{X Y:List Addr}{x:Internal.X}{t:Addr}{v2:Option Value}(hfr:A.frames=some l)(g:Go Z σ0 X s0 σ s)(hz0:∀ a∈Z,∃ o,s0.heap.get? a=some o)(hc0:∀ x c,(x,c)∈env.cells→∃ o,s0.heap.get? c=some o)(S':St K P A σ Z H s)(F':FR P σ Z env ρ s.heap)(aY:a∈Y)(hY:∀ b∈Y,s0.heap.get? b=none)(SY:St K P A σ (Y++Z) H s)(ho:s.heap.get? a=some o)(hc:o.cls=.type x.cls)(ft:Fz σ (Y++Z) t)(ht:s.heap.IsTuple t vs)(hvs:ak P s.heap σ (Y++Z) x.args vs.toList)(F:FR P σ (Y++Z) env ρ s.heap)(hh:∀ b∈hide,b∈Y∨b∈uX l)(hL:rW hide s.heap h' a o.cls (.ref t) fl v2)(h2:∃ c,v2=some c∧Cx s.heap σ (Y++Z) c):
  Go Z σ0 X s0 σ {s with heap:=h'}∧nY K P A s0.heap {s with heap:=h'} σ Z H x (.ref a) fl (fun Y=>FR P σ (Y++Z) env ρ h')∧St K P A σ Z H {s with heap:=h'}∧FR P σ Z env ρ h':=by
 obtain⟨k1,⟨oe,ws,T,oT,ts,he,⟨hc',h0'⟩,hd',h1',hnT,hTe,hT,hdT,h3⟩,k4,k5⟩:=hL;have frL:=xQ S'.fr hfr;have YnZ:∀ b,b∈Y→b∉Z:=fun b hb hz=>by refine af (fun o e=>?_) (hz0 b hz);rw[hY b hb] at e;exists e
 have Tin:∀ o1,s.heap.get? T=some o1→T∈Y:=fun o1 e1=>by
  by_cases hm:T∈hide
  ·rcases hh T hm with q | q
   ·exact q
   ·obtain⟨_,o2,e2,hd2⟩:=frL T q;rw[e2] at e1;exists e1;refine af (fun sl e3=>?_) (k4 T _ e2 (lU hd2));rw[hT] at e3;exists e3;exact absurd hdT (lU (by rw[ub];exact hd2) ts)
  ·rw[hideAll_get _ e1 hm] at hnT;exists hnT
 have T8:378≤T:=by
  rcases Nat.lt_or_ge T 378 with q | q
  ·refine af (fun o e=>?_) (SY.bs.low T q);exact SY.kz T (List.mem_append_left _ (Tin o e))
  ·exact q
 have Tσ:T∉σ:=fun q=>by
  refine af (fun o e=>?_) (SY.sd q);exact SY.apart T q (List.mem_append_left _ (Tin o e))
 have T0:s0.heap.get? T=none:=by
  cases q:s0.heap.get? T with
  | none=>rfl
  | some o1=>refine ab (fun o2 e2 J=>?_) (g.dom T o1 q);rw[hY T (Tin o2 e2)] at q;exists q
 have a0:s0.heap.get? a=none:=hY a aY;have nh:∀ b,b∉Y→b∉Z→b∉hide:=fun b h1 h2 h=>(hh b h).elim h1 fun q=>h2 (frL b q).1
 have stepZ:∀ b o,b∉Y→s.heap.get? b=some o→∃ sl,h'.get? b=some {o with slots:=sl}∧(b∉Z∨cT o=false→sl=o.slots):=fun b o hb e=>by
  by_cases hm:b∈hide
  ·rcases hh b hm with q | q
   ·exact absurd q hb
   ·obtain⟨hz,o2,e2,hd2⟩:=frL b q;rw[e2] at e;exists e;refine af (fun sl e3=>?_) (k4 b _ e2 (lU hd2))
    exact⟨sl,e3,fun h=>by
     rcases h with h | h
     ·exact absurd hz h
     ·rw[hd2] at h;exists h⟩
  ·exact⟨o.slots,k1 b o hm e,fun J=>rfl⟩
 have gN:Go Z σ0 X s0 σ {s with heap:=h'}:=by
  refine⟨fun b o e h0 h1 h2=>?_,fun b o e=>?_,g.sub,g.os,g.gens⟩
  ·refine ab (fun sl e1 q1=>?_) (g.up b o e h0 h1 h2);refine ab (fun sl2 e2 q2=>?_) (stepZ b _ (fun q=>by rw[hY b q] at e;exists e) e1);exact⟨sl2,e2,fun h=>(q2 (h.imp (fun h=>h) fun h=>h)).trans (q1 h)⟩
  ·refine ab (fun o1 e1 q1=>?_) (g.dom b o e);refine ab (fun sl2 e2 J=>?_) (stepZ b _ (fun q=>by rw[hY b q] at e;exists e) e1);exact⟨_,e2,fun h=>q1 h⟩
 have hf:∀ b o,Fz σ (Y++Z) b→s.heap.get? b=some o→h'.get? b=some o∧Fz σ ([a,T]++Z) b:=fun b o f e=>by
  have h1:b∉Y:=fun q=>f.nz (List.mem_append_left _ q);have h2:b∉Z:=fun q=>f.nz (List.mem_append_right _ q);refine⟨k1 b o (nh b h1 h2) e,f.lo,f.ns,fun q=>?_⟩;rcases List.mem_append.mp q with q | q
  ·rcases List.mem_cons.mp q with rfl | q
   ·exact h1 aY
   ·rw[List.mem_singleton.mp q] at e h1;exact h1 (Tin o e)
  ·exact h2 q
 have zex:∀ b∈Z,∃ o,h'.get? b=some o:=fun b hb=>by
  refine af (fun o e=>?_) (S'.zd b hb);refine ab (fun sl e2 J=>?_) (stepZ b o (fun q=>YnZ b q hb) e);exact⟨_,e2⟩
 have fr':∀ Z2,(∀ b∈Z,b∈Z2)→gC A Z2 h':=fun Z2 hz2=>S'.fr.tr rfl hz2 fun b o hb e=>by
  refine ab (fun sl e2 J=>?_) (stepZ b o (fun q=>YnZ b q hb) e);exact⟨_,e2,fun h=>h⟩
 have S2:St K P A σ ([a,T]++Z) H {s with heap:=h'}:=by
  refine SY.hop (s':={s with heap:=h'}) (fun b o hb e=>k1 b o (nh b (fun q=>hb (List.mem_append_left _ q)) fun q=>hb (List.mem_append_right _ q)) e) (fun b hb=>?_) (fun b o e hb q=>?_) rfl (fr' _ fun b h=>List.mem_append_right _ h)
  ·rcases List.mem_append.mp hb with hb | hb
   ·rcases List.mem_cons.mp hb with rfl | hb
    ·exact⟨SY.kz _ (List.mem_append_left _ aY),fun q=>SY.apart _ q (List.mem_append_left _ aY),_,he⟩
    ·rw[List.mem_singleton.mp hb];exact⟨T8,Tσ,_,hT⟩
   ·exact⟨S'.kz b hb,fun q=>S'.apart b q hb,zex b hb⟩
  ·rcases List.mem_append.mp q with q | q
   ·rcases List.mem_cons.mp q with rfl | q
    ·exact hb (List.mem_append_left _ aY)
    ·rw[List.mem_singleton.mp q] at e hb;exact hb (List.mem_append_left _ (Tin o e))
   ·exact hb (List.mem_append_right _ q)
 have notY:∀ b,(b=env.locals∨∃ x,(x,b)∈env.cells)→b∉Y:=fun b h q=>by
  rcases h with rfl | ⟨x,h⟩
  ·exact YnZ _ q F'.locZ
  ·refine af (fun o e=>?_) (hc0 x b h);rw[hY b q] at e;exists e
 have inY:∀ b∈[a,T],(b=env.locals∨∃ x,(x,b)∈env.cells)→b∈Y:=fun b q hb=>by
  rcases List.mem_cons.mp q with rfl | q
  ·exact aY
  ·rw[List.mem_singleton.mp q] at hb ⊢
   have ex:∃ o,s.heap.get? T=some o:=by
    rcases hb with rfl | ⟨x,hb⟩
    ·obtain⟨m,hm,_⟩:=F'.ns;exact pT hm
    ·refine aV (fun J o e J=>?_) (F'.cex x T hb);exact⟨o,e⟩
   revert ex;refine af fun o e=>?_
   exact Tin o e
 have F2:FR P σ ([a,T]++Z) env ρ h':=by
  refine F.up hf (fun J J h=>h) (fun b o J hb e=>?_) fun b hz hb=>List.mem_append_right _ ((List.mem_append.mp hz).elim (fun q=>absurd q (notY b hb)) fun q=>q);refine ab (fun sl e2 J=>?_) (stepZ b o (notY b hb) e);exact⟨sl,e2⟩
 refine⟨gN,⟨a,[a,T],oe,ws,t,vs,rfl,List.mem_cons_self,fun b hb=>?_,S2,he,hc'.trans hc,hd',h0',?_,?_,ak.tr hf (fun J J h=>h) _ hvs,⟨T,oT,ts,List.mem_cons_of_mem _ List.mem_cons_self,h1',hTe,hT,hdT,h3⟩,(let ⟨c,e1,e2⟩:=h2;⟨c,(k5 oe ws he hd').trans e1,e2.tr hf⟩),F2⟩,S2.fewer (fun b h=>List.mem_append_right _ h) (fr' _ fun J h=>h),?_⟩
 ·rcases List.mem_cons.mp hb with rfl | hb
  ·exact a0
  ·rw[List.mem_singleton.mp hb];exact T0
 ·revert ht;refine ab fun ot eo J=>?_;exact(hf t ot ft eo).2
 ·revert ht;refine ab fun ot eo r=>?_;exact⟨ot,(hf t ot ft eo).1,r⟩
 ·exact F2.up (fun b o f e=>⟨e,f.mono fun J h=>List.mem_append_right _ h⟩) (fun J J h=>h) (fun b o J J e=>⟨o.slots,e⟩) fun b hz hb=>(List.mem_append.mp hz).elim (fun q=>absurd (inY b q hb) (notY b hb)) fun q=>q
theorem pu{M:Model}{A':Around}{X:List Addr}{x:Internal.X}{f:Option Addr}(hfr:A.frames=some l)(g:Go Z σ0 X s0 σ s)(hz0:∀ a∈Z,∃ o,s0.heap.get? a=some o)(hc0:∀ x c,(x,c)∈env.cells→∃ o,s0.heap.get? c=some o)(S':St K P A σ Z H s)(F':FR P σ Z env ρ s.heap)(hx:nY K P A s0.heap s σ Z H x e fl fun Y=>FR P σ (Y++Z) env ρ s.heap)(hQ:∀ s',Go Z σ0 X s0 σ s'→St K P A σ Z H s'→FR P σ Z env ρ s'.heap→nY K P A s0.heap s' σ Z H x e (f.elim .none fun f=>rawInt f) (fun Y=>FR P σ (Y++Z) env ρ s'.heap)→Q () s'):wpAny M A' (setFlight e f) Q E s:=by
 obtain⟨a,Y,o,fs,t,vs,rfl,aY,hY,SY,ho,hc,hd,h0,ft,ht,hvs,⟨T,oT,ts,TY,h1,hTa,hTo,hTd,h3⟩,h2,F⟩:=hx;unfold setFlight;refine wpAny_bind (wpAny_field ho hd h1 ?_);rw[if_pos (show(Value.ref T != Value.none)=true from by walk_at "s")];have hsz:3 < ts.size:=(Array.getElem?_eq_some_iff.mp h3).1;have hdT:=Obj.data_mapFields hTd (·.setIfInBounds 3 (f.elim .none fun f=>rawInt f));have hT':=Heap.get?_update_self (Obj.mapFields (·.setIfInBounds 3 (f.elim .none fun f=>rawInt f))) hTo (Obj.isFreed_of_fields hdT);refine wpAny_setField hTo hTd hsz ?_;generalize hh':s.heap.update T (Obj.mapFields (·.setIfInBounds 3 (f.elim .none fun f=>rawInt f)))=h' at hT' ⊢;have other:∀ b o,b≠T→s.heap.get? b=some o→h'.get? b=some o:=fun b o hb e=>by rw[←hh'];exact(Heap.get?_update_other _ _ (Ne.symm hb)).trans e
 have n:rW [a,T] s.heap h' a o.cls (.ref t) (f.elim .none fun f=>rawInt f) fs[2]? :=by
  refine⟨fun b o hb e=>other b o (fun q=>hb (by rw[q];exact List.mem_cons_of_mem _ List.mem_cons_self)) e,⟨o,fs,T,_,_,other a o (Ne.symm hTa) ho,⟨rfl,h0⟩,hd,h1,hideAll_none _ (List.mem_cons_of_mem _ List.mem_cons_self),hTa,hT',hdT,by simp[hsz]⟩,fun b o hb hnf=>⟨o.slots,other b o (fun q=>?_) hb⟩,fun oe ws q1 q2=>?_⟩
  ·rw[q,hTo] at hb;exists hb;exact hnf ts hTd
  ·rw[other a o (Ne.symm hTa) ho] at q1;exists q1;rw[hd] at q2;exists q2;rfl
 obtain⟨q1,q2,q3,q4⟩:=iE hfr g hz0 hc0 S' F' aY hY SY ho hc ft ht hvs F (fun b hb=>by
  rcases List.mem_cons.mp hb with rfl | hb
  ·exact .inl aY
  ·rw[List.mem_singleton.mp hb];exact .inl TY) n h2
 exact hQ _ q1 q3 q4 q2
theorem rj{M:Model}{X:List Addr}{x:Internal.X}(hfr:A.frames=some (env::outer))(g:Go Z σ0 X s0 σ s)(hz0:∀ a∈Z,∃ o,s0.heap.get? a=some o)(hc0:∀ x c,(x,c)∈env.cells→∃ o,s0.heap.get? c=some o)(S':St K P A σ Z H s)(F':FR P σ Z env ρ s.heap)(hx:lu K P A s0.heap s σ Z H x e fun Y=>FR P σ (Y++Z) env ρ s.heap)(hQ:∀ s' fl,Go Z σ0 X s0 σ s'→St K P A σ Z H s'→FR P σ Z env ρ s'.heap→nY K P A s0.heap s' σ Z H x e fl (fun Y=>FR P σ (Y++Z) env ρ s'.heap)→Q () s'):wpAny M A (noteFrame e env) Q E s:=by
 obtain⟨a,Y,o,fs,t,vs,rfl,aY,hY,SY,ho,hc,hd,h0,ft,ht,hvs,hT,h2,F⟩:=hx;obtain⟨fl,efl,hfl⟩:=S'.fr;rw[hfr] at efl;exists efl;obtain⟨hk,L,oL,hfL,hLZ,hL,hLd⟩:=hfl env List.mem_cons_self;unfold noteFrame;simp only[hfL];rcases hT with h1 | ⟨fl,T,oT,ts,TY,h1,hTa,hTo,hTd,h3⟩
 ·have ff:=fR (hide:=a::uX (env::outer)) hfl fun L hL=>List.mem_cons_of_mem _ hL;refine wpAny_bind (wpAny_field ho hd h1 ?_);rw[if_neg (by decide)];refine nr hfr ff hfL List.mem_cons_self (fun b hb=>List.mem_cons_of_mem _ hb) ho hd (Array.getElem?_eq_some_iff.mp h1).1 h0 fun h' hN=>?_
  obtain⟨q1,q2,q3,q4⟩:=iE hfr g hz0 hc0 S' F' aY hY SY ho hc ft ht hvs F (fun b hb=>by
   rcases List.mem_cons.mp hb with rfl | hb
   ·exact .inl aY
   ·exact .inr hb) hN h2
  exact hQ _ _ q1 q3 q4 q2
 ·refine wpAny_bind (wpAny_field ho hd h1 ?_);rw[if_pos (show(Value.ref T != Value.none)=true from by walk_at "s")];refine wpAny_bind (wpAny_field hTo hTd h3 ?_)
  by_cases hq:(fl==rawInt L)=true
  ·rw[if_pos hq];exact wpAny_pure (hQ s fl g S' F' ⟨a,Y,o,fs,t,vs,rfl,aY,hY,SY,ho,hc,hd,h0,ft,ht,hvs,⟨T,oT,ts,TY,h1,hTa,hTo,hTd,h3⟩,h2,F⟩)
  ·rw[if_neg hq];have hsz:3 < ts.size:=(Array.getElem?_eq_some_iff.mp h3).1;refine wpAny_bind (wpAny_setField hTo hTd hsz ?_)
   have hhd:∀ b∈a::T::uX (env::outer),b∈Y∨b∈uX (env::outer):=fun b hb=>by
    rcases List.mem_cons.mp hb with rfl | hb
    ·exact .inl aY
    ·rcases List.mem_cons.mp hb with rfl | hb
     ·exact .inl TY
     ·exact .inr hb
   generalize hh':s.heap.update T (Obj.mapFields (·.setIfInBounds 3 Value.none))=h1';have other:∀ b o,b≠T→s.heap.get? b=some o→h1'.get? b=some o:=fun b o hb e=>by rw[←hh'];exact(Heap.get?_update_other _ _ (Ne.symm hb)).trans e
   have norec:∀ b o,s.heap.get? b=some o→(∀ vs,o.data≠ .fields vs)→b≠T:=fun b o e hnf q=>by rw[q,hTo] at e;exists e;exact hnf ts hTd
   have ff:=fR (h:=h1') (hide:=a::T::uX (env::outer)) (l:=env::outer) (Z:=Z) (fun en he=>by
    obtain⟨k1,L',o',k2,k3,k4,k5⟩:=hfl en he;exact⟨k1,L',o',k2,k3,other L' o' (norec L' o' k4 (lU k5)) k4,k5⟩) fun L hL=>List.mem_cons_of_mem _ (List.mem_cons_of_mem _ hL)
   refine nr (s:={s with heap:=h1'}) hfr ff hfL List.mem_cons_self (fun b hb=>List.mem_cons_of_mem _ (List.mem_cons_of_mem _ hb)) (other a o (Ne.symm hTa) ho) hd (Array.getElem?_eq_some_iff.mp h1).1 h0 fun h' hN=>?_;obtain⟨k1,k2,k4,k5⟩:=hN
   revert k2;refine ES fun oe ws T' oT' ts' r1 r2 t=>?_;revert t;refine DC fun r3 r4 r5 r6 r7 r8 r9=>?_
   have hN':rW (a::T::uX (env::outer)) s.heap h' a o.cls (.ref t) (rawInt L) fs[2]? :=by
    refine⟨fun b o hb e=>k1 b o hb (other b o (fun q=>hb (by rw[q];exact List.mem_cons_of_mem _ List.mem_cons_self)) e),⟨oe,ws,T',oT',ts',r1,r2,r3,r4,?_,r6,r7,r8,r9⟩,fun b o e hnf=>k4 b o (other b o (norec b o e hnf) e) hnf,k5⟩
    by_cases hm:T'∈a::T::uX (env::outer)
    ·exact hideAll_none _ hm
    ·cases q:(hideAll s.heap (a::T::uX (env::outer))).get? T' with
     | none=>rfl
     | some o1=>
      have e1:=other T' o1 (fun q=>hm (by rw[q];exact List.mem_cons_of_mem _ List.mem_cons_self)) (of_hideAll _ q);have e2:=hideAll_get (a::T::uX (env::outer)) e1 hm;rw[e2] at r5;exists r5
   refine fY (fun q1 q2 q3 q4=>?_) (iE hfr g hz0 hc0 S' F' aY hY SY ho hc ft ht hvs F hhd hN' h2);exact hQ _ _ q1 q3 q4 q2
theorem yh{M:Model}{X:List Addr}{x:Internal.X}(hfr:A.frames=some (env::outer))(g:Go Z σ0 X s0 σ s)(hz0:∀ a∈Z,∃ o,s0.heap.get? a=some o)(hc0:∀ x c,(x,c)∈env.cells→∃ o,s0.heap.get? c=some o)(S':St K P A σ Z H s)(F':FR P σ Z env ρ s.heap)(hx:lu K P A s0.heap s σ Z H x e fun Y=>FR P σ (Y++Z) env ρ s.heap)(hQ:∀ s',Go Z σ0 X s0 σ s'→St K P A σ Z H s'→FR P σ Z env ρ s'.heap→lu K P A s0.heap s' σ Z H x e (fun Y=>FR P σ (Y++Z) env ρ s'.heap)→Q () s'):wpAny M A (leaving env e) Q E s:=by
 unfold leaving;refine wpAny_bind (rj hfr g hz0 hc0 S' F' hx fun s1 fl g1 S1 F1 x1=>?_);exact pu hfr g1 hz0 hc0 S1 F1 x1 fun s2 g2 S2 F2 x2=>hQ s2 g2 S2 F2 x2.xr
noncomputable def qS(fd:FuncData)(ns:List Str):Bool:=
 fd.closure.isEmpty&&fd.globals==mainGlobals&&fd.builtins==builtinsNs&&decide ns.Nodup&&decide (bz fd.scope.names).Nodup&&fd.scope.names.all (fun p=>p.2 != .free)&&ns.all (aG fd.scope)&&
  fd.scope.isCoroutine==false&&fd.scope.isGenerator==false&&fd.scope.kind== .function
theorem lu.fewer{A':Around}{W:List Addr}{x:Internal.X}{G:List Addr→Prop}(q:lu K P A' h0 s σ (W++Z) H x e G)(hfr:gC A Z s.heap)(hh:A.handled=A'.handled:=by rfl):XR K P A h0 s σ Z H x e:=by
 obtain⟨a,Y,o,fs,t,vs,e1,e2,e3,e4,e5,e6,e7,e8,e9,e10,e11,e12,⟨c,e13,e14⟩,_⟩:=q;have sub:∀ b∈Y++Z,b∈Y++(W++Z):=fun b h=>(List.mem_append.mp h).elim (fun h=>List.mem_append_left _ h) fun h=>List.mem_append_right _ (List.mem_append_right _ h);exact⟨a,Y,o,fs,t,vs,e1,e2,e3,e4.fewer sub (hfr.tr rfl (fun b h=>List.mem_append_right _ h) fun J o J e=>⟨o,e,fun h=>h⟩) hh,e5,e6,e7,e8,e9.mono sub,e10,ak.mono sub _ e11,e12,⟨c,e13,e14.tr fun a o f e=>⟨e,f.mono sub⟩⟩,trivial⟩
noncomputable def Bd(prog:Program)(w:World)(K:Frag)(fd:FuncData)(ar:List Value→Args)(xs:List V)(ns:List Str)(ys:List V)(H:Hp):Prop:=
 ∀ (A:Around) (σ Z:List Addr) (s:Shared) (vs:List Value) (Q:List (Str × Value)→Shared→Prop) (E:Value→Shared→Prop),St K w.params A σ Z H s→ak w.params s.heap σ Z xs vs→
  (∀ ws s',Go Z σ [] s σ s'→St K w.params A σ Z H s'→ak w.params s'.heap σ Z ys ws→Q (ns.zip ws) s')→wpAny (model prog w) A.in1 (bindArgs fd (ar vs)) Q E s
variable{fd:FuncData}{xs:List V}
theorem pe{ns:List Str}(hlen:xs.length=ns.length)(hbind:∀ vs:List Value,vs.length=ns.length→bindArgs fd ⟨vs,[]⟩=pure (ns.zip vs)):Bd prog w K fd (fun vs=>⟨vs,[]⟩) xs ns xs H:=by
 intro A σ Z s vs Q E S hv hQ;rw[hbind vs (hv.length.symm.trans hlen)];exact wpAny_pure (hQ vs s (Go.refl ..) S hv)
noncomputable def Cq:Flow→Value
 | .ret v=>v
 | _=>.none
variable{body:List Stmt}{ys:List V}{ar:List Value→Args}{Q:Value→Shared→Prop}
theorem so{ns:List Str}(ho:K.lookup a=some o)(hdata:o.data=.func fd)(hcode:∃ c oc vs t,fd.code=.ref c∧K.lookup c=some oc∧oc.data=.fields vs∧vs[1]? =some (.str fd.qualname t))(hbody:fd.body=.stmts body)(hok:qS fd ns=true)(hlen:ys.length=ns.length)(hbind:Bd prog w K fd ar xs ns ys H){vs0:List Value}(hA:cF A (d+1) hd)(S:St K w.params A σ Z H s)(hv0:ak w.params s.heap σ Z xs vs0)(run:∀ (env:Env) (s1:Shared),Sc env fd.scope (own env)→env.code=fd.code→env.qual=fd.qualname++".<locals>."→cF (A.deeper env) d ⟨hd.h,some env⟩→St K w.params (A.deeper env) σ (cN env++Z) H s1→FR w.params σ (cN env++Z) env (ns.zip ys) s1.heap→Go Z σ [] s σ s1→
   (∀ σ' s',Go (cN env++Z) σ (own env) s1 σ' s'→Go Z σ [] s σ' s')→(∀ b∈cN env,b∉Z)→wpAny (model prog w) (A.deeper env) (execs body env) (fun f s'=>Q (Cq f) s') (fun e s'=>wpAny (model prog w) (A.deeper env) (leaving env e) (fun J s''=>E e s'') E s') s1):
  wpAny (model prog w) A (call (.ref a) (ar vs0).pos (ar vs0).kw) Q E s:=by
 unfold qS at hok;simp only[Bool.and_eq_true,decide_eq_true_eq] at hok;obtain⟨⟨⟨⟨⟨⟨⟨⟨⟨hclo,hgl⟩,hbl⟩,hnd⟩,hcn⟩,hnf⟩,hall⟩,hco⟩,hgen⟩,hk⟩:=hok
 have hnofree:∀ x,fd.scope.names.lookup x≠some .free:=fun x e=>by
  have:=(List.all_eq_true.mp hnf) _ (mem_of_lookup e);simp at this
 replace hclo:=List.isEmpty_iff.mp hclo
 replace hgl:=eq_of_beq hgl
 replace hbl:=eq_of_beq hbl
 replace hco:=eq_of_beq hco
 replace hgen:=eq_of_beq hgen
 replace hk:=eq_of_beq hk
 have hnod:∀ n,((cellsFrom n fd.scope.names []).map (·.1)).Nodup:=fun n=>by rw[bK,List.map_nil,List.append_nil];exact(List.pairwise_reverse).mpr (hcn.imp fun h=>Ne.symm h)
 have hnames:∀ n,∀ x c,(x,c)∈cellsFrom n fd.scope.names []→(cellsFrom n fd.scope.names []).lookup x=some c:=fun n=>jm _ (hnod n)
 have hcel:∀ n x,fd.scope.names.lookup x=some .cell→((cellsFrom n fd.scope.names []).lookup x).isSome=true:=fun n x hx=>
  cL _ x (by rw[bK];simpa using dO _ x hx)
 have hkind:∀ x∈ns,fd.scope.names.lookup x=some .local∨(fd.scope.names.lookup x=some .cell∧∀ n,((cellsFrom n fd.scope.names []).lookup x).isSome=true):=fun x hx=>by
  have q:=(List.all_eq_true.mp hall) x hx;unfold aG at q;rw[Bool.and_eq_true,Bool.or_eq_true] at q;rcases q.1 with q | q
  ·exact .inl (eq_of_beq q)
  ·exact .inr ⟨eq_of_beq q,fun n=>hcel n x (eq_of_beq q)⟩
 refine wpAny_call ?_;have hroom:A.depth < recursionLimit:=by have:=hA.depth;omega
 revert hcode;refine DE fun c oc vsc t hc1 hc2 hc3 hc4=>?_
 refine codeAny_call_function hroom (S.at ho) hdata hco hgen hbody ⟨c,oc,vsc,t,hc1,S.at hc2,hc3,hc4⟩ (hbind A σ Z s vs0 _ _ S hv0 fun vs sb gb Sb hv=>?_);rw[hclo];refine wpAny_newFunctionEnv_cells hk (fun x hx=>?_) fun env he s₁ X=>?_
 ·refine am (fun h1 J=>?_) (List.of_mem_zip hx);rcases hkind x.1 h1 with q | ⟨q1,q2⟩
  ·exact .inl q
  ·exact .inr ⟨q1,q2 _⟩
 ·have he2:env=callEnvC fd sb.heap.objs.size a:=he;subst he2;refine⟨Sb.bs.lim.keeps X.toInCall.keep,codeAny_func ?_⟩;obtain⟨h₁,tk,rfl,hkeep⟩:=X.done;have g1:∀ Z,Go Z σ [] sb σ {sb with heap:=h₁,toks:=tk}:=fun Z=>.of ⟨fun b o e J J J=>hkeep b o e,fun b o e=>⟨o,hkeep b o e,fun h=>h⟩,⟨[],by walk_at "s",fun J h=>nomatch h⟩,rfl,rfl⟩;generalize hL:sb.heap.objs.size=L at X ⊢
  have hfr:∀ b,L≤b→sb.heap.get? b=none:=fun b hb=>by
   cases e:sb.heap.get? b with
   | none=>rfl
   | some o'=>exact absurd (Heap.lt_size e) (by rw[hL];exact Nat.not_lt.mpr hb)
  have hown:∀ b∈cN (callEnvC fd L a),sb.heap.get? b=none∧sb.heap.objs.size≤b∧∃ o,h₁.get? b=some o:=by
   intro b hb;rcases List.mem_cons.mp hb with rfl | hb
   ·exact⟨hfr _ (Nat.le_refl _),by rw[hL];exact Nat.le_refl _,pT X.toInCall.ns⟩
   ·refine af (fun q t=>?_) (List.mem_map.mp hb);obtain⟨x,c'⟩:=q;revert t;refine am fun hm t=>?_;obtain rfl:=t;have hlt:L < c':=X.above x c' hm;refine ab (fun o' ho' J=>?_) (X.cell x c' (hnames _ x c' hm));exact⟨hfr _ (Nat.le_of_lt hlt),by rw[hL];exact Nat.le_of_lt hlt,o',ho'⟩
  have S0:St K w.params A σ (cN (callEnvC fd L a)++Z) H {sb with heap:=h₁,toks:=tk}:=Sb.frame (g1 Z) (fun b o J e=>hkeep b o e) fun b hb=>⟨(hown b hb).1,Nat.le_trans Sb.size (hown b hb).2.1,(hown b hb).2.2⟩
  have S1:St K w.params (A.deeper (callEnvC fd L a)) σ (cN (callEnvC fd L a)++Z) H {sb with heap:=h₁,toks:=tk}:=by
   refine S0.fewer (fun J h=>h) ?_;obtain⟨fl,e,q⟩:=S0.fr;refine⟨callEnvC fd L a::fl,by show A.frames.map _=_;rw[e];rfl,fun env he=>?_⟩;rcases List.mem_cons.mp he with rfl | he
   ·refine ab (fun oL eL dL=>?_) (jT X.toInCall.ns);exact⟨by show fd.scope.kind≠_;rw[hk];decide,L,oL,rfl,List.mem_append_left _ List.mem_cons_self,eL,dL⟩
   ·exact q env he
  have hv1:ak w.params h₁ σ (cN (callEnvC fd L a)++Z) ys vs:=ak.go (s:=sb) (s':={sb with heap:=h₁,toks:=tk}) (g1 _) (fun J h=>nomatch h) ys (ak.grow (fun b hb=>(hown b hb).1) ys hv)
  have F:FR w.params σ (cN (callEnvC fd L a)++Z) (callEnvC fd L a) (ns.zip ys) h₁:=by
   refine⟨hk,hgl,hbl,⟨_,X.toInCall.ns,fun x u e1 e2=>?_⟩,fun x u e1 e2=>?_,fun x u e1=>?_,List.mem_append_left _ List.mem_cons_self,fun x c' hm=>?_,fun x y c' h1 h2=>?_,fun x c' hm=>?_,fun x u e1=>?_,fun x e=>e.elim (fun e=>hcel _ x e) fun e=>absurd e (hnofree x)⟩
   ·refine ab (fun i h1 h2=>?_) (lp ns ys x u e1);refine ab (fun v h3 hr=>?_) (ak.get hv1 h2);exact⟨v,nb _ ns vs _ x i v hnd h1 h3 e2,hr⟩
   ·refine ab (fun i h1 h2=>?_) (lp ns ys x u e1);refine ab (fun v h3 hr=>?_) (ak.get hv1 h2);have hkx:=hkind x (List.mem_of_getElem? h1);have hnl:(callEnvC fd L a).kindOf x≠some .local:=fun q=>by rcases e2 with e2 | e2 <;> (rw[e2] at q;exists q)
    rcases hkx with q | ⟨_,q2⟩
    ·exact absurd q hnl
    ·refine af (fun c' hc'=>?_) (Option.isSome_iff_exists.mp (q2 (L+1)));refine ab (fun o' ho' hd'=>?_) (X.cell x c' hc');exact⟨c',v,hc',⟨o',ho',by rw[hd',na _ ns vs _ x i v hnd h1 h3 hnl]⟩,hr⟩
   ·refine ab (fun i h1 J=>?_) (lp ns ys x u e1);rcases hkind x (List.mem_of_getElem? h1) with q | ⟨q,_⟩
    ·exact .inl q
    ·exact .inr (.inl q)
   ·exact⟨.inl (List.mem_append_left _ (List.mem_cons_of_mem _ (List.mem_map.mpr ⟨_,hm,rfl⟩))),Nat.ne_of_gt (X.above x c' hm)⟩
   ·exact name_of_addr X.apart h1 h2
   ·refine ab (fun o' ho' hd'=>?_) (X.cell x c' (hnames _ x c' hm));exact⟨_,o',ho',hd'⟩
   ·refine am (fun h1 J=>?_) (List.of_mem_zip e1);exact aG.plain ((List.all_eq_true.mp hall) x h1)
  have hfrs:(A.deeper (callEnvC fd L a)).frames=A.frames.map (callEnvC fd L a:: ·):=rfl
  have hA1:cF (A.deeper (callEnvC fd L a)) d ⟨hd.h,some (callEnvC fd L a)⟩:=by
   refine⟨?_,?_,hA.none,hA.guards,fun e he=>?_⟩
   ·have:=hA.depth;show A.depth+1+2 * d < _;omega
   ·have:=hA.units;show A.units+3+40 * d < _;omega
   ·exists he;obtain⟨fl,e,_⟩:=S.fr;exact⟨fl,by rw[hfrs,e];rfl⟩
  have cvt:∀ σ' s',Go (cN (callEnvC fd L a)++Z) σ (own (callEnvC fd L a)) {sb with heap:=h₁,toks:=tk} σ' s'→Go Z σ [] s σ' s':=fun σ' s' g'=>by
   have q:Go (cN (callEnvC fd L a)++Z) σ ([]++cN (callEnvC fd L a)) sb σ' s':=((g1 _).trans g' fun J h=>nomatch h).wide sW;exact gb.trans ((q.cut fun b hb=>(hown b hb).1).less fun b hb=>(hown b hb).1)
  have hapart:∀ b∈cN (callEnvC fd L a),b∉Z:=fun b hb hz=>by
   refine af (fun o e=>?_) (Sb.zd b hz);rw[(hown b hb).1] at e;exists e
  exact run (callEnvC fd L a) {sb with heap:=h₁,toks:=tk} (Sc.own rfl) rfl rfl hA1 S1 F (gb.trans (g1 Z)) cvt hapart
theorem sm{fl:Fl}{f:Flow}(hf:zI P h σ Z fl f):VR P h σ Z fl.val (Cq f):=by
 cases fl with
 | ret u=>revert hf;refine ab fun v q hu=>?_;obtain rfl:=q;exact hu
 | _=>obtain rfl:f=_:=hf;rfl
theorem vR{ns:List Str}(ho:K.lookup a=some o)(hdata:o.data=.func fd)(hcode:∃ c oc vs t,fd.code=.ref c∧K.lookup c=some oc∧oc.data=.fields vs∧vs[1]? =some (.str fd.qualname t))(hbody:fd.body=.stmts body)(hok:qS fd ns=true)(hlen:ys.length=ns.length)(hbind:Bd prog w K fd ar xs ns ys H)(h:∀ env:Env,Sc env fd.scope (own env)→Ex prog w K d ⟨hd.h,some env⟩ env (ns.zip ys) (execs body env) H (z3 k) (vf kx)):
  Pr prog w K (d+1) hd xs (fun vs=>call (.ref a) (ar vs).pos (ar vs).kw) H k kx:=by
 intro A σ Z s vs0 Q E hA S hv0 hQ hE;refine so ho hdata hcode hbody hok hlen hbind hA S hv0 fun env s1 hsc hc hq hA1 S1 F gs cvt hap=>?_;refine h env hsc _ σ _ _ _ _ hA1 S1 F (fun f s' σ' fl ρ' H' g' S' F' hf hk'=>?_) (fun e s' σ' x ρ' H' g' S' F' hx hk'=>?_)
 ·have g:=cvt σ' s' g';exact hQ _ s' σ' fl.val H' g (S'.fewer (fun b h=>List.mem_append_right _ h) (S.fr.go g)) (VR.mono (fun J h=>List.mem_append_right _ h) _ (sm hf)) hk'
 ·refine af (fun outer hout=>?_) (hA1.top _ rfl);refine yh hout g' (fun b hb=>S1.zd b hb) (fun x c h=>let ⟨_,o,e,_⟩:=F.cex x c h;⟨o,e⟩) S' F' hx fun s'' g'' S'' F'' hx''=>?_;have g:=cvt σ' s'' g'';exact hE e s'' σ' x H' g (S''.fewer (fun b h=>List.mem_append_right _ h) (S.fr.go g)) ((lu.fewer (A:=A) hx'' (S.fr.go g)).old gs) hk'
theorem xP{ns:List Str}(ho:K.lookup a=some o)(hdata:o.data=.func fd)(hcode:∃ c oc vs t,fd.code=.ref c∧K.lookup c=some oc∧oc.data=.fields vs∧vs[1]? =some (.str fd.qualname t))(hbody:fd.body=.stmts body)(hok:qS fd ns=true)(hlen:xs.length=ns.length)(hbind:∀ vs:List Value,vs.length=ns.length→bindArgs fd ⟨vs,[]⟩=pure (ns.zip vs))(h:∀ env:Env,Sc env fd.scope (own env)→Ex prog w K d ⟨hd.h,some env⟩ env (ns.zip xs) (execs body env) H (z3 k) (vf kx)):
  Pr prog w K (d+1) hd xs (fun vs=>call (.ref a) vs) H k kx:=
 vR ho hdata hcode hbody hok hlen (pe hlen hbind) h
structure Wk(prog:Program)(w:World)(A:Around)(tg:PySem.Expr)(I:Addr)(wr fp:List Addr)(n:Nat)(P:Nat→Value→Heap→Heap→Prop)(St:Nat→Heap→Prop):Prop where
 sub:∀ b∈wr,b∈fp
 dom:∀ i h,St i h→∀ b∈fp,∃ o,h.get? b=some o
 nd:∀ i h,St i h→∀ b∈wr,∀ o,h.get? b=some o→cT o=false
 frame:∀ i h h',St i h→(∀ b∈fp,∀ o,h.get? b=some o→h'.get? b=some o)→St i h'
 item:∀ i (s:Shared) (Q:Option Value→Shared→Prop) (E:Value→Shared→Prop),i < n→St i s.heap→
  (∀ v h1 tk,(∀ (Q2:Unit→Shared→Prop) (E2:Value→Shared→Prop),(∀ h2,P i v s.heap h2→St (i+1) h2→(∀ b o,b∉wr→s.heap.get? b=some o→h2.get? b=some o)→Q2 () {s with heap:=h2,toks:=tk})→
    wpAny (model prog w) A (letOwnedTupleGo tg (.ref I) v) Q2 E2 {s with heap:=h1,toks:=tk})→Q (some v) {s with heap:=h1,toks:=tk})→wpAny (model prog w) A (pyNext (.ref I)) Q E s
 done:∀ (s:Shared) (Q:Option Value→Shared→Prop) (E:Value→Shared→Prop),St n s.heap→
  (∀ h' tk,(∀ b o,b∉wr→s.heap.get? b=some o→h'.get? b=some o)→Q none {s with heap:=h',toks:=tk})→wpAny (model prog w) A (pyNext (.ref I)) Q E s
 self:∀ i (s:Shared) (Q:Value→Shared→Prop) (E:Value→Shared→Prop),St i s.heap→Q (.ref I) s→wpAny (model prog w) A (pyIter (.ref I)) Q E s
variable{tg:PySem.Expr}{fp wr:List Addr}
theorem Wk.of_walks{I:Addr}{P:Nat→Value→Prop}{St:Nat→Heap→Prop}(W:Walks prog w A I fp wr n P St)(ht:∀ v,letOwnedTupleGo tg (.ref I) v=pure ())(hd:∀ i h,St i h→∀ b∈fp,∃ o,h.get? b=some o)(hn:∀ i h,St i h→∀ b∈wr,∀ o,h.get? b=some o→cT o=false):Wk prog w A tg I wr fp n (fun i v J J=>P i v) St where
 sub:=W.sub
 dom:=hd
 nd:=hn
 frame:=W.frame
 item:=fun i s Q E hi st hQ=>W.item i s Q E hi st fun v h' tk hP hst hk=>hQ v h' tk fun Q2 E2 hq=>by rw[ht];exact wpAny_pure (hq h' hP hst hk)
 done:=W.done
 self:=W.self
variable{elts:List PySem.Expr}{kk:Nat}
theorem Wk.of_T{I:Addr}{Pt:Nat→Array Value→Prop}{St:Nat→Heap→Prop}{Mid:Nat→Addr→Heap→Prop}(W:WalksT prog w A I fp wr n Pt St Mid)(hd:∀ i h,St i h→∀ b∈fp,∃ o,h.get? b=some o)(hn:∀ i h,St i h→∀ b∈wr,∀ o,h.get? b=some o→cT o=false):Wk prog w A (.Tuple elts kk pos) I wr fp n (fun i v h h'=>∃ T vals,v=.ref T∧Pt i vals∧h.objs.size≤T∧h'.IsTuple T vals) St where
 sub:=W.sub
 dom:=hd
 nd:=hn
 frame:=W.frame
 item:=fun i s Q E hi st hQ=>W.item i s Q E hi st fun T vals h' tk hP hT hI hM hk=>hQ (.ref T) h' tk fun Q2 E2 hq=>by
  refine W.go elts kk pos i T {s with heap:=h',toks:=tk} Q2 E2 hM fun h2 hst2 hk2=>?_
  revert hI;refine ab fun o ho r=>?_
  exact hq h2 ⟨T,vals,rfl,hP,hT,o,hk2 T o (W.apart i T h' hM) ho,r⟩ hst2 fun b o hb e=>hk2 b o hb (hk b o hb e)
 done:=W.done
 self:=W.self
inductive Ik (prog:Program) (w:World) (A:Around) (tg:PySem.Expr) (σ Z:List Addr) (l:List V) (s s₂:Shared) (v:Value):Prop
 | mk (I:Addr) (wr fp:List Addr) (P:Nat→Value→Heap→Heap→Prop) (Ws:Nat→Heap→Prop):v=.ref I→Go Z σ [] s σ s₂→(∀ b o,s.heap.get? b=some o→s₂.heap.get? b=some o)→Wk prog w A tg I wr fp l.length P Ws→Ws 0 s₂.heap→(∀ b∈wr,s.heap.get? b=none∧s.heap.objs.size≤b)→
  (∀ b∈fp,b∈wr∨(Fz σ Z b∧∃ o,s.heap.get? b=some o))→
  (∀ (i:Nat) x y h h' σ' Z',l[i]? =some x→P i y h h'→(∀ a o,Fz σ Z a→s.heap.get? a=some o→h'.get? a=some o∧Fz σ' Z' a)→(∀ (r:Nat) a,σ[r]? =some a→σ'[r]? =some a)→
    (∀ a,a∈σ'∨a∈Z'→∃ o,h.get? a=some o)→378≤h.objs.size→VR w.params h' σ' Z' x y)→Ik prog w A tg σ Z l s s₂ v
noncomputable def It(prog:Program)(w:World)(K:Frag)(d:Nat)(hd:Hd)(tg:PySem.Expr)(xs:List V)(f:List Value→Sem Value)(l:List V)(H:Hp):Prop:=
 ∀ (A:Around) (σ Z:List Addr) (s:Shared) (vs:List Value) (Q:Value→Shared→Prop) (E:Value→Shared→Prop),cF A d hd→St K w.params A σ Z H s→ak w.params s.heap σ Z xs vs→
  (∀ v s₂,Ik prog w A tg σ Z l s s₂ v→Q v s₂)→wpAny (model prog w) A (f vs) (fun x s1=>wpAny (model prog w) A (pyIter x) Q E s1) E s
noncomputable def Iv(prog:Program)(w:World)(K:Frag)(d:Nat)(hd:Hd)(tg:PySem.Expr)(u:V)(l:List V)(H:Hp):Prop:=
 ∀ (A:Around) (σ Z:List Addr) (s:Shared) (v:Value) (Q:Value→Shared→Prop) (E:Value→Shared→Prop),cF A d hd→St K w.params A σ Z H s→VR w.params s.heap σ Z u v→
  (∀ v' s₂,Ik prog w A tg σ Z l s s₂ v'→Q v' s₂)→wpAny (model prog w) A (pyIter v) Q E s
noncomputable def Ie(prog:Program)(w:World)(K:Frag)(d:Nat)(hd:Hd)(env:Env)(ρ:ai)(tg:PySem.Expr)(t:Sem Value)(H:Hp)(kI:List V→Hp→Prop)(kx:X→Hp→Prop):Prop:=
 ∀ (A:Around) (σ Z:List Addr) (s:Shared) (Q:Value→Shared→Prop) (E:Value→Shared→Prop),cF A d hd→St K w.params A σ Z H s→FR w.params σ Z env ρ s.heap→
  (∀ v σ0 s0 H0 l s₂,Go Z σ [] s σ0 s0→St K w.params A σ0 Z H0 s0→kI l H0→Ik prog w A tg σ0 Z l s0 s₂ v→Q v s₂)→
  tu w K A Z σ s kx E→wpAny (model prog w) A t (fun x s1=>wpAny (model prog w) A (pyIter x) Q E s1) E s
inductive BZ (prog:Program) (w:World) (K:Frag) (d:Nat) (hd:Hd) (tg:PySem.Expr) (kI:List V→Hp→Prop) (u:V) (H:Hp):Prop
 | mk (l:List V):Iv prog w K d hd tg u l H→kI l H→BZ prog w K d hd tg kI u H
inductive zZ (prog:Program) (w:World) (K:Frag) (d:Nat) (hd:Hd) (tg:PySem.Expr) (f:List Value→Sem Value) (kI:List V→Hp→Prop) (us:List V) (H:Hp):Prop
 | mk (l:List V):It prog w K d hd tg us f l H→kI l H→zZ prog w K d hd tg f kI us H
variable{kI:List V→Hp→Prop}
theorem aX{t:Sem Value}{kx:X→Hp→Prop}(h:Ev prog w K d hd env ρ t H (BZ prog w K d hd tg kI) kx):Ie prog w K d hd env ρ tg t H kI kx:=by
 intro A σ Z s Q E hA S F hQ hE;refine h A σ Z s _ _ hA S F (fun v s1 σ1 u H1 g1 S1 hu hk=>?_) hE;obtain⟨l,hit,hk⟩:=hk;exact hit A σ1 Z s1 v Q E hA S1 hu fun v' s₂ ik=>hQ v' σ1 s1 H1 l s₂ g1 S1 hk ik
variable{k:Fl→ai→Hp→Prop}{kx:X→ai→Hp→Prop}
noncomputable abbrev Mc(env:Env)(a:Addr):Prop:=a=env.locals∨∃ x,(x,a)∈env.cells
theorem ym(h:Mc env a):a∈cN env:=by
 rcases h with rfl | ⟨x,h⟩
 ·exact List.mem_cons_self
 ·exact List.mem_cons_of_mem _ (List.mem_map.mpr ⟨_,h,rfl⟩)
theorem FR.notIn{Y:List Addr}(F:FR P σ Z env ρ h)(hy:∀ a∈Y,h.get? a=none):∀ a,Mc env a→a∉Y:=fun a hm q=>by
 rcases hm with rfl | ⟨x,hm⟩
 ·obtain⟨m,hm,_⟩:=F.ns;refine af (fun o e=>?_) (pT hm);rw[hy _ q] at e;exists e
 ·refine aV (fun J o e J=>?_) (F.cex x a hm);rw[hy _ q] at e;exists e
theorem FR.tr{Z':List Addr}(F:FR P σ Z env ρ h)(hf:∀ a o,Fz σ Z a→h.get? a=some o→h'.get? a=some o∧Fz σ' Z' a)(hs:∀ (r:Nat) a,σ[r]? =some a→σ'[r]? =some a)(ho:∀ a o,a∈Z→Mc env a→h.get? a=some o→h'.get? a=some o)(hZ:∀ a,a∈Z→Mc env a→a∈Z'):FR P σ' Z' env ρ h':=
 F.up hf hs (fun a o hz hm e=>⟨o.slots,ho a o hz hm e⟩) hZ
theorem St.tr{Y:List Addr}(S:St K P A σ (Y++Z) H s)(S0:gC A Z s.heap)(hk:∀ b o,b∉Y→s.heap.get? b=some o→s'.heap.get? b=some o)(hz:∀ a∈Y,a∉Z)(hg:s'.gens=s.gens)(hy:∀ a∈Y,378≤a):St K P A σ Z H s':=
 S.hop (fun b o hb e=>hk b o (fun h=>hb (List.mem_append_left _ h)) e) (fun a h=>⟨S.kz a (List.mem_append_right _ h),fun q=>S.apart a q (List.mem_append_right _ h),by
  refine af (fun o e=>?_) (S.zd a (List.mem_append_right _ h));exact⟨o,hk a o (fun q=>hz a q h) e⟩⟩) (fun b o J hb q=>hb (List.mem_append_right _ q)) hg (S0.tr rfl (fun J h=>h) fun b o hb e=>⟨o,hk b o (fun q=>hz b q hb) e,fun h=>h⟩)
theorem Go.after{X W:List Addr}(g:Go Z σ X s σ' s')(hk:∀ b o,b∉W→s'.heap.get? b=some o→s''.heap.get? b=some o)(hW:∀ b∈W,s.heap.get? b=Option.none)(h1:s''.os=s'.os)(h2:s''.gens=s'.gens):Go Z σ X s σ' s'':=by
 have hb:∀ b o,s.heap.get? b=some o→b∉W:=fun b o e q=>by rw[hW b q] at e;exists e
 exact⟨fun b o e q0 q1 q2=>by refine ab (fun sl e1 q=>?_) (g.up b o e q0 q1 q2);exact⟨sl,hk b _ (hb b o e) e1,q⟩,fun b o e=>by refine ab (fun o' e' q=>?_) (g.dom b o e);exact⟨o',hk b o' (hb b o e) e',q⟩,g.sub,h1.trans g.os,h2.trans g.gens⟩
noncomputable abbrev tK(B:ai→Hp→Prop)(k:Fl→ai→Hp→Prop)(fl:Fl)(ρ:ai)(H:Hp):Prop:=match fl with
 | .next | .cont=>B ρ H
 | .brk=>k .next ρ H
 | .ret u=>k (.ret u) ρ H
noncomputable abbrev tB(prog:Program)(w:World)(K:Frag)(d:Nat)(hd:Hd)(env:Env)(body:List Stmt)(k:Fl→ai→Hp→Prop)(ρ:ai)(H:Hp):Prop:=Ex prog w K d hd env ρ (execs body env) H k (fun J J J=>False)
noncomputable def ge(prog:Program)(w:World)(K:Frag)(d:Nat)(hd:Hd)(env:Env)(tg:PySem.Expr)(body:List Stmt)(k:Fl→ai→Hp→Prop):List V→ai→Hp→Prop
 | [],ρ,H=>k .next ρ H
 | x::r,ρ,H=>As prog w K d hd env (own env) ρ (assign tg env) x H (tB prog w K d hd env body (tK (ge prog w K d hd env tg body k r) k)) (fun J J J=>False)
theorem tj(h:k .next ρ H):ge prog w K d hd env tg body k [] ρ H:=h
theorem yV{x:V}{r:List V}(h:As prog w K d hd env (own env) ρ (assign tg env) x H (tB prog w K d hd env body (tK (ge prog w K d hd env tg body k r) k)) (fun J J J=>False)):ge prog w K d hd env tg body k (x::r) ρ H:=h
inductive D4 (K:Frag) (P:Params) (A:Around) (env:Env) (Z σ1 Xo wr:List Addr) (s1:Shared) (l:List V) (Ws:Nat→Heap→Prop) (T:List V→ai→Hp→Prop) (n:Nat) (s':Shared):Prop
 | mk (σ':List Addr) (ρ':ai) (H':Hp) (i:Nat):n=l.length - i→i≤l.length→Go (wr++Z) σ1 (Xo++wr) s1 σ' s'→St K P A σ' (wr++Z) H' s'→FR P σ' (wr++Z) env ρ' s'.heap→Ws i s'.heap→T (l.drop i) ρ' H'→D4 K P A env Z σ1 Xo wr s1 l Ws T n s'
noncomputable abbrev FH(prog:Program)(w:World)(K:Frag)(d:Nat)(hd:Hd)(env:Env)(tg:PySem.Expr)(body:List Stmt)(k:Fl→ai→Hp→Prop)(ρ:ai)(l:List V)(H:Hp):Prop:=ge prog w K d hd env tg body k l ρ H
variable{iter:PySem.Expr}
theorem dk(hs:∀ x,foldedSetIterable iter env x=pure x)(h:Ie prog w K d hd env ρ tg (eval iter env) H (FH prog w K d hd env tg body k ρ) (nc ρ kx)):
  Ex prog w K d hd env ρ (exec (.For tg iter body [] pos) env) H k kx:=by
 intro A σ Z s Q E hA S F hQ hE;refine wpAny_For (h A σ Z s _ _ hA S F (fun v σ1 s1 H1 l s₂ g1 S1 hT hik=>?_) (hE.to S F)) hs;have F1:=F.go S g1;obtain⟨I,wr,fp,P,Ws,rfl,g2,hk2,W,hst,hwr,hfp,hval⟩:=hik;have hownZ:=F1.ownZ;have hwrZ:∀ a∈wr,a∉Z:=fun a ha hz=>by refine af (fun o e=>?_) (S1.zd a hz);rw[(hwr a ha).1] at e;exists e
 have hwro:∀ a∈wr,a∉own env:=fun a ha ho=>hwrZ a ha (hownZ a ho);have hwrm:∀ a,Mc env a→a∉wr:=F1.notIn fun a ha=>(hwr a ha).1;have hwr8:∀ a∈wr,378≤a:=fun a ha=>Nat.le_trans S1.size (hwr a ha).2;have hy:∀ a∈wr,s1.heap.get? a=none∧378≤a∧∃ o,s₂.heap.get? a=some o:=fun a ha=>⟨(hwr a ha).1,hwr8 a ha,W.dom 0 _ hst a (W.sub a ha)⟩;have S2:St K w.params A σ1 (wr++Z) H1 s₂:=S1.frame g2 (fun a o J e=>hk2 a o e) hy;have F2:FR w.params σ1 (wr++Z) env ρ s₂.heap:=F1.frame S1 g2 fun a ha=>(hwr a ha).1
 have out:∀ f s5 σ5 fl ρ5 H5,Go Z σ1 (own env) s1 σ5 s5→St K w.params A σ5 Z H5 s5→FR w.params σ5 Z env ρ5 s5.heap→zI w.params s5.heap σ5 Z fl f→k fl ρ5 H5→Q f s5:=fun f s5 σ5 fl ρ5 H5 g S5 F5 hf hk=>
  hQ f s5 σ5 fl ρ5 H5 (g1.ev g) S5 F5 hf hk
 have cvt:∀ {σ5 s5},Go (wr++Z) σ1 (own env++wr) s1 σ5 s5→Go Z σ1 (own env) s1 σ5 s5:=fun g=>(g.cut fun a ha=>(hwr a ha).1).less fun a ha=>(hwr a ha).1
 have FlRm:∀ {h:Heap} {σ5:List Addr} {fl:Fl} {f:Flow},zI w.params h σ5 (wr++Z) fl f→zI w.params h σ5 Z fl f:=fun {h σ5 fl f} q=>by
  cases fl with
  | ret u=>revert q;refine ab fun v e hv=>?_;exact⟨v,e,VR.mono (fun J h=>List.mem_append_right _ h) _ hv⟩
  | next=>exact q
  | brk=>exact q
  | cont=>exact q
 have Funf:∀ {h:Heap} {σ5:List Addr} {ρ5:ai},FR w.params σ5 (wr++Z) env ρ5 h→FR w.params σ5 Z env ρ5 h:=fun F5=>
  F5.tr (fun a o f e=>⟨e,f.mono fun J h=>List.mem_append_right _ h⟩) (fun J J h=>h) (fun J J J J e=>e) fun a ha hm=>(List.mem_append.mp ha).elim (fun q=>absurd q (hwrm a hm)) fun q=>q
 refine codeAny_forLoop_any (D4 K w.params A env Z σ1 (own env) wr s1 l Ws (ge prog w K d hd env tg body k)) ?_ l.length ⟨σ1,ρ,H1,0,rfl,Nat.zero_le _,(g2.more fun a h=>List.mem_append_right _ h).wide (fun J h=>nomatch h),S2,F2,hst,hT⟩;rintro n s' ⟨σ',ρ',H',i,rfl,hi,g',S',F',hst',hT'⟩
 by_cases hlt:i < l.length
 ·refine W.item i s' _ _ hlt hst' fun v h1 tk hgo=>hgo _ _ fun h2 hP hst2 hkeep=>?_;have hd':l.drop i=l[i]::l.drop (i+1):=List.drop_eq_getElem_cons hlt;rw[hd'] at hT'
  have g3:Go (wr++Z) σ' wr s' σ' {s' with heap:=h2,toks:=tk}:=.of ⟨fun b o e J J hb=>hkeep b o hb e,fun b o e=>by
   by_cases hb:b∈wr
   ·refine af (fun o' e'=>?_) (W.dom _ _ hst2 b (W.sub b hb));exact⟨o',e',fun h=>by rw[W.nd _ _ hst' b hb o e] at h;exists h⟩
   ·exact⟨o,hkeep b o hb e,fun h=>h⟩,⟨[],by walk_at "s",fun J h=>nomatch h⟩,rfl,rfl⟩
  have S3:St K w.params A σ' (wr++Z) H' {s' with heap:=h2,toks:=tk}:=S'.go g3 (fun a h=>List.mem_append_left _ h) fun a o ha e=>hkeep a o (fun h=>S'.apt a ha (List.mem_append_left _ h)) e;have F3:FR w.params σ' (wr++Z) env ρ' h2:=F'.tr (fun a o f e=>⟨hkeep a o (fun h=>f.nz (List.mem_append_left _ h)) e,f⟩) (fun J J h=>h) (fun a o J hm e=>hkeep a o (hwrm a hm) e) (fun a ha J=>ha)
  have fz1:∀ a o,Fz σ1 Z a→s1.heap.get? a=some o→h2.get? a=some o∧Fz σ' (wr++Z) a:=fun a o f e=>by
   have hnw:a∉wr:=fun h=>by rw[(hwr a h).1] at e;exists e
   have hno:a∉own env:=fun h=>f.nz (hownZ a h);have hwz:a∉wr++Z:=fun h=>(List.mem_append.mp h).elim hnw f.nz;exact⟨hkeep a o hnw (g'.ext a o e (fun h=>by have:=f.lo;rw[h] at this;exact absurd this (by decide)) f.ns (fun h=>(List.mem_append.mp h).elim hno hnw) (.inl hwz)),f.lo,g'.mem e f.ns,hwz⟩
  have hv:VR w.params h2 σ' (wr++Z) l[i] v:=by
   refine hval i l[i] v s'.heap h2 σ' (wr++Z) (List.getElem?_eq_getElem hlt) hP fz1 (fun r a e=>?_) (fun a ha=>?_) S'.size
   ·obtain⟨τ,rfl,_⟩:=g'.sub;rw[List.getElem?_append_left (List.getElem?_eq_some_iff.mp e).1];exact e
   ·rcases ha with ha | ha
    ·exact S'.sd ha
    ·exact S'.zd a ha
  refine hT' A σ' (wr++Z) {s' with heap:=h2,toks:=tk} v _ _ hA S3 F3 hv (fun s4 σ4 ρ4 H4 g4 S4 F4 hE4=>?_) (fun e s' σ' x ρ' H' J J J J hf=>hf.elim);refine hE4 A σ4 (wr++Z) s4 _ _ hA S4 F4 (fun f s5 σ5 fl ρ5 H5 g5 S5 F5 hf hk5=>?_) (fun e s' σ' x ρ' H' J J J J hf=>hf.elim);have g45:Go (wr++Z) σ' (own env) {s' with heap:=h2,toks:=tk} σ5 s5:=g4.seq g5;have g3':Go (wr++Z) σ1 (own env++wr) s1 σ' {s' with heap:=h2,toks:=tk}:=g'.trans (g3.wide fun a h=>List.mem_append_right _ h);have gt:Go (wr++Z) σ1 (own env++wr) s1 σ5 s5:=g3'.trans (g45.wide fun a h=>List.mem_append_left _ h)
  have again:ge prog w K d hd env tg body k (l.drop (i+1)) ρ5 H5→∃ m,m < l.length - i∧D4 K w.params A env Z σ1 (own env) wr s1 l Ws (ge prog w K d hd env tg body k) m s5:=fun ht=>by
   refine⟨l.length - (i+1),Nat.sub_succ_lt_self _ _ hlt,σ5,ρ5,H5,i+1,rfl,hlt,gt,S5,F5,W.frame _ _ _ hst2 fun b hb o e=>?_,ht⟩;rcases hfp b hb with hb | ⟨fb,ob,eb⟩
   ·exact g45.ext b o e (fun h=>by have:=hwr8 b hb;rw[h] at this;exact absurd this (by decide)) (fun h=>S'.apart b h (List.mem_append_left _ hb)) (hwro b hb) (.inr (W.nd _ _ hst2 b hb o e))
   ·exact g45.ext b o e (fun h=>by have:=fb.lo;rw[h] at this;exact absurd this (by decide)) (fz1 b ob fb eb).2.ns (fun h=>fb.nz (hownZ b h)) (.inl (fz1 b ob fb eb).2.nz)
  cases fl with
  | next=>have e:f=.next:=hf;subst e;exact again hk5
  | cont=>have e:f=.cont:=hf;subst e;exact again hk5
  | brk=>have e:f=.brk:=hf;subst e;exact out _ s5 σ5 .next ρ5 H5 (cvt gt) (S5.fewer (fun b h=>List.mem_append_right _ h) (S1.fr.go (cvt gt))) (Funf F5) rfl hk5
  | ret u=>revert hf;refine ab fun v q hv=>?_;obtain rfl:=q;exact out _ s5 σ5 (.ret u) ρ5 H5 (cvt gt) (S5.fewer (fun b h=>List.mem_append_right _ h) (S1.fr.go (cvt gt))) (Funf F5) (FlRm (fl:=.ret u) ⟨v,rfl,hv⟩) hk5
 ·have hin:i=l.length:=by omega
  subst hin;refine W.done s' _ _ hst' fun h' tk hkeep=>?_;rw[List.drop_length] at hT'
  refine wpAny_execs_nil (out _ _ σ' .next ρ' H' ((cvt g').after (W:=wr) hkeep (fun b hb=>(hwr b hb).1) rfl rfl) (S'.tr (s':={s' with heap:=h',toks:=tk}) (S1.fr.go (cvt g')) hkeep hwrZ rfl hwr8)
   (F'.tr (fun a o f e=>⟨hkeep a o (fun h=>f.nz (List.mem_append_left _ h)) e,f.mono fun J h=>List.mem_append_right _ h⟩) (fun J J h=>h) (fun a o J hm e=>hkeep a o (hwrm a hm) e) fun a ha hm=>(List.mem_append.mp ha).elim (fun q=>absurd q (hwrm a hm)) fun q=>q) rfl hT')
noncomputable def gW(ifs:List PySem.Expr)(env:Env):Sem Bool:=
 forIn ifs true fun c r=>if r=true then do let ok←isTrue c env (eval c env);pure (ForInStep.yield ok) else pure (ForInStep.yield r)
noncomputable def deeper(e:PySem.Expr)(depth:Nat)(acc:Value)(env:Env)(elt:PySem.Expr)(rest:Sem Fin):Option PySem.Comprehension→Sem Fin
 | some g'=>eval g'.iter env >>= fun x=>standAt g'.iter.pos >>= fun J=>foldedSetIterable g'.iter env x >>= fun x=>holding [x] (pyIter x) >>= fun it'=>runOwn (.compStart e (depth+1) it' acc env) env >>= fun J=>rest
 | none=>(eval elt env >>= fun x=>call (.builtin "list.append") [acc,x] >>= fun J=>pure ()) >>= fun J=>rest
variable{elt target:PySem.Expr}{ifs:List PySem.Expr}{gens:List PySem.Comprehension}{scope:Scope}{depth:Nat}{it acc:Value}
theorem pi(hg:gens[depth]? =some ⟨target,iter,ifs,0⟩)(hg':∀ g',gens[depth+1]? =some g'→g'.is_async=0):
  compTurn (.ListComp elt gens scope pos) depth it acc env=(standAt iter.pos >>= fun J=>pyNext it >>= fun r=>match r with
   | none=>pure (.done .next)
   | some v=>letOwnedTupleGo target it v >>= fun J=>assign target env v >>= fun J=>gW ifs env >>= fun ok=>
    if ok=true then deeper (.ListComp elt gens scope pos) depth acc env elt (again (.compLoop (.ListComp elt gens scope pos) depth it acc env)) gens[depth+1]?
    else again (.compLoop (.ListComp elt gens scope pos) depth it acc env)):=by
 unfold compTurn;dsimp only;rw[hg];cases h:gens[depth+1]? with
 | none=>rfl
 | some g'=>
  obtain⟨t',i',f',a'⟩:=g';have e:a'=0:=hg' _ h;subst e;rfl
theorem om{R:Result→Shared→Prop}(hg:gens[depth]? =some ⟨target,iter,ifs,0⟩)(h0:codeAny (model prog w) A (.compLoop (.ListComp elt gens scope pos) depth it acc env) R s)(h:wpAny (model prog w) A (pyIter it) (fun it' s'=>codeAny (model prog w) A (.compLoop (.ListComp elt gens scope pos) depth it' acc env) R s')
   (notedBy (model prog w) A env fun x s'=>R (.error x) s') s):
  codeAny (model prog w) A (.compStart (.ListComp elt gens scope pos) depth it acc env) R s:=by
 refine codeAny_of_tree ?_;show wpAny _ _ ((compStart (.ListComp elt gens scope pos) depth it acc env).onRaise (fun x=>do noteFrame x env;standAt theWindowsPlace)) _ _ s;refine wpAny_notedAt ?_;unfold compStart;have e:(clausesOf (.ListComp elt gens scope pos))[depth]? =some ⟨target,iter,ifs,0⟩:=hg;rw[e];show wpAny _ _ (ask >>= _) _ _ s;refine wpAny_bind (wpAny_askSetting (wpAny_ite ?_));split
 ·first
   | exact wpAny_bind (wpAny_pure (wpAny_pure (And.intro rfl h0)))
   | exact wpAny_pure (And.intro rfl h0)
 ·first
   | exact wpAny_bind (wpAny_rule (wpAny_bind (wpAny_standAt (wpAny_bind (wpAny_mono h (fun it' s' h'=>wpAny_pure (And.intro rfl h')) fun J J x=>x)))))
   | (refine wpAny_bind (wpAny_rule ?_);show wpAny _ _ (standAt iter.pos >>= _) _ _ s;exact wpAny_bind (wpAny_standAt (wpAny_bind (wpAny_mono h (fun it' s' h'=>wpAny_pure (And.intro rfl h')) fun J J x=>x))))
inductive mR (P:Params) (h:Heap) (σ Z:List Addr) (D:Addr) (acc:List V):Prop
 | mk (ys:Array Value):h.PlainList D ys→ak P h σ Z acc ys.toList→mR P h σ Z D acc
section
variable(prog:Program)(w:World)(K:Frag)(d:Nat)(hd:Hd)(env:Env)(Xw:List Addr)(elt:PySem.Expr)
noncomputable def eR(g:PySem.Comprehension)(inner:(List V→ai→Hp→Prop)→List V→ai→Hp→Prop):List V→(List V→ai→Hp→Prop)→List V→ai→Hp→Prop
 | [],k,acc,ρ,H=>k acc ρ H
 | x::r,k,acc,ρ,H=>As prog w K d hd env Xw ρ (assign g.target env) x H (fun ρ1 H1=>Eb prog w K d hd env ρ1 (gW g.ifs env) H1 (fun ok H2=>match ok with
   | true=>inner (eR g inner r k) acc ρ1 H2
   | false=>eR g inner r k acc ρ1 H2) (fun J J=>False)) (fun J J J=>False)
noncomputable def qD:List PySem.Comprehension→(List V→ai→Hp→Prop)→List V→ai→Hp→Prop
 | [],k,acc,ρ,H=>acc.length≤1000∧Ev prog w K d hd env ρ (eval elt env) H (fun u H'=>k (acc++[u]) ρ H') (fun J J=>False)
 | g::gs,k,acc,ρ,H=>Ie prog w K d hd env ρ g.target (eval g.iter env) H (fun l H1=>eR prog w K d hd env Xw g (qD gs) l k acc ρ H1) (fun J J=>False)
end
section
variable{prog:Program}{w:World}{K:Frag}{d:Nat}{hd:Hd}{env:Env}{Xw:List Addr}{elt:PySem.Expr}
theorem ak.snoc{P:Params}{h:Heap}{σ Z:List Addr}{x:V}{a:Value}(hx:VR P h σ Z x a):∀ {l:List V} {vs:List Value},ak P h σ Z l vs→ak P h σ Z (l++[x]) (vs++[a])
 | [],_,q=>by subst q;exact ak.one hx
 | y::l,_,q=>by
  revert q;refine aV fun v r q t=>?_;obtain rfl:=q;revert t;refine am fun hy hl=>?_
  show ak P h σ Z (y::(l++[x])) (v::(r++[a]));exact⟨v,r++[a],rfl,hy,ak.snoc hx hl⟩
variable{acc:List V}
theorem mR.tr{Z':List Addr}{D:Addr}(x:mR P h σ Z D acc)(hf:∀ a o,Fz σ Z a→h.get? a=some o→h'.get? a=some o∧Fz σ' Z' a)(hs:∀ (r:Nat) a,σ[r]? =some a→σ'[r]? =some a)(hD:∀ o,h.get? D=some o→h'.get? D=some o):mR P h' σ' Z' D acc:=by
 obtain⟨ys,hl,hv⟩:=x;exact⟨ys,hl.at hD,ak.tr hf hs _ hv⟩
theorem mR.nd{D:Addr}(x:mR P h σ Z D acc):∀ o,h.get? D=some o→cT o=false:=fun o e=>by
 obtain⟨ys,⟨n,e'⟩,_⟩:=x;rw[e'] at e;exists e;rfl
inductive D0 (K:Frag) (P:Params) (A:Around) (env:Env) (D:Addr) (Z σ Xo wr:List Addr) (s0:Shared) (l:List V) (Ws:Nat→Heap→Prop) (T:List V→List V→ai→Hp→Prop) (n:Nat) (s':Shared):Prop
 | mk (σ':List Addr) (ρ':ai) (H':Hp) (acc':List V) (i:Nat):n=l.length - i→i≤l.length→Go (wr++Z) σ (Xo++wr) s0 σ' s'→St K P A σ' (wr++Z) H' s'→FR P σ' (wr++Z) env ρ' s'.heap→mR P s'.heap σ' (wr++Z) D acc'→Ws i s'.heap→T (l.drop i) acc' ρ' H'→D0 K P A env D Z σ Xo wr s0 l Ws T n s'
noncomputable def xf(prog:Program)(w:World)(K:Frag)(d:Nat)(hd:Hd)(env:Env)(Xw:List Addr)(D:Addr)(inner:(List V→ai→Hp→Prop)→List V→ai→Hp→Prop)(f:Sem Fin→Sem Fin):Prop:=
 ∀ (A:Around) (σ Z:List Addr) (s:Shared) (acc:List V) (ρ:ai) (H:Hp) (kk:List V→ai→Hp→Prop) (rest:Sem Fin) (Q:Fin→Shared→Prop) (E:Value→Shared→Prop),cF A d hd→St K w.params A σ Z H s→FR w.params σ Z env ρ s.heap→D∈Z→mR w.params s.heap σ Z D acc→
  inner kk acc ρ H→(∀ s' σ' acc' ρ' H',Go Z σ (D::Xw) s σ' s'→St K w.params A σ' Z H' s'→FR w.params σ' Z env ρ' s'.heap→mR w.params s'.heap σ' Z D acc'→kk acc' ρ' H'→wpAny (model prog w) A rest Q E s')→wpAny (model prog w) A (f rest) Q E s
variable{g:PySem.Comprehension}{inner:(List V→ai→Hp→Prop)→List V→ai→Hp→Prop}{P:Nat→Value→Heap→Heap→Prop}
theorem kg{D:Addr}(hgens:∀ g∈gens,g.is_async=0∧∀ x,foldedSetIterable g.iter env x=pure x)(hDo:D∉cN env)(hXo:∀ a∈Xw,a∈own env)(hg:gens[depth]? =some g)(hin:xf prog w K d hd env Xw D inner (fun rest=>deeper (.ListComp elt gens scope pos) depth (.ref D) env elt rest gens[depth+1]?))(A:Around)(σ Z Zb:List Addr)(s0 s₂:Shared)(l acc:List V)(ρ:ai)(H:Hp)(R:Result→Shared→Prop)(kk:List V→ai→Hp→Prop){I:Addr}{Ws:Nat→Heap→Prop}(W:Wk prog w A g.target I wr fp l.length P Ws)(hst:Ws 0 s₂.heap)(S0:gC A Z s0.heap)(hA:cF A d hd)(S2:St K w.params A σ (wr++Z) H s₂)(F2:FR w.params σ (wr++Z) env ρ s₂.heap)(A2:mR w.params s₂.heap σ (wr++Z) D acc)(gb:Go (wr++Z) σ ((D::Xw)++wr) s0 σ s₂)(hwr:∀ a∈wr,s0.heap.get? a=none)(hwrZ:∀ a∈wr,a∉Z)(hwr8:∀ a∈wr,378≤a)(hownZ:∀ a∈own env,a∈Z)(hwrm:∀ a,Mc env a→a∉wr)(hDZ:D∈Z)(hfp:∀ b∈fp,b∈wr∨(Fz σ Zb b∧∃ o,s0.heap.get? b=some o))(hfzb:∀ a o,Fz σ Zb a→s0.heap.get? a=some o→a∉Z)(hval:∀ (i:Nat) x y h h' σ' Z',l[i]? =some x→P i y h h'→(∀ a o,Fz σ Zb a→s0.heap.get? a=some o→h'.get? a=some o∧Fz σ' Z' a)→(∀ (r:Nat) a,σ[r]? =some a→σ'[r]? =some a)→
    (∀ a,a∈σ'∨a∈Z'→∃ o,h.get? a=some o)→378≤h.objs.size→VR w.params h' σ' Z' x y)(hL:eR prog w K d hd env Xw g inner l kk acc ρ H)(hR:∀ s' σ' acc' ρ' H',Go Z σ (D::Xw) s0 σ' s'→St K w.params A σ' Z H' s'→FR w.params σ' Z env ρ' s'.heap→mR w.params s'.heap σ' Z D acc'→kk acc' ρ' H'→R (.ok .next) s'):
  codeAny (model prog w) A (.compStart (.ListComp elt gens scope pos) depth (.ref I) (.ref D) env) R s₂:=by
  obtain⟨target,iter,ifs,asy⟩:=g;have hasy:asy=0:=(hgens _ (List.mem_of_getElem? hg)).1;subst hasy;have hwro:∀ a∈wr,a∉own env:=fun a ha ho=>hwrZ a ha (hownZ a ho);have hDw:D∉wr:=fun h=>hwrZ D h hDZ
  have hXZ:∀ a∈D::Xw,a∈Z:=fun a h=>by
   rcases List.mem_cons.mp h with rfl | h
   ·exact hDZ
   ·exact hownZ a (hXo a h)
  have hD8:378≤D:=S2.kz D (List.mem_append_right _ hDZ)
  have loop:codeAny (model prog w) A (.compLoop (.ListComp elt gens scope pos) depth (.ref I) (.ref D) env) R s₂:=by
   refine codeAny_loop rfl (D0 K w.params A env D Z σ (D::Xw) wr s0 l Ws (fun l'=>eR prog w K d hd env Xw ⟨target,iter,ifs,0⟩ inner l' kk)) ?_ l.length ⟨σ,ρ,H,acc,0,rfl,Nat.zero_le _,gb,S2,F2,A2,hst,hL⟩;rintro n s' ⟨σ',ρ',H',acc',i,rfl,hi,g',S',F',A',hst',hT'⟩;show wpAny _ A ((compTurn (.ListComp elt gens scope pos) depth (.ref I) (.ref D) env).onRaise (fun x=>do noteFrame x env;theTreesLotGoes x)) _ _ s';refine wpAny_noted ?_;rw[pi hg fun g' h=>(hgens _ (List.mem_of_getElem? h)).1];refine wpAny_bind (wpAny_standAt (wpAny_bind ?_))
   by_cases hlt:i < l.length
   ·refine W.item i s' _ _ hlt hst' fun v h1 tk hgo=>wpAny_bind (hgo _ _ fun h2 hP hst2 hkeep=>wpAny_bind ?_);have hd':l.drop i=l[i]::l.drop (i+1):=List.drop_eq_getElem_cons hlt;rw[hd'] at hT'
    have g3:Go (wr++Z) σ' wr s' σ' {s' with heap:=h2,toks:=tk}:=.of ⟨fun b o e J J hb=>hkeep b o hb e,fun b o e=>by
     by_cases hb:b∈wr
     ·refine af (fun o' e'=>?_) (W.dom _ _ hst2 b (W.sub b hb));exact⟨o',e',fun h=>by rw[W.nd _ _ hst' b hb o e] at h;exists h⟩
     ·exact⟨o,hkeep b o hb e,fun h=>h⟩,⟨[],by walk_at "s",fun J h=>nomatch h⟩,rfl,rfl⟩
    have S3:St K w.params A σ' (wr++Z) H' {s' with heap:=h2,toks:=tk}:=S'.go g3 (fun a h=>List.mem_append_left _ h) fun a o ha e=>hkeep a o (fun h=>S'.apt a ha (List.mem_append_left _ h)) e;have kz3:∀ a o,Fz σ' (wr++Z) a→s'.heap.get? a=some o→h2.get? a=some o∧Fz σ' (wr++Z) a:=fun a o f e=>⟨hkeep a o (fun h=>f.nz (List.mem_append_left _ h)) e,f⟩;have F3:FR w.params σ' (wr++Z) env ρ' h2:=F'.tr kz3 (fun J J h=>h) (fun a o J hm e=>hkeep a o (hwrm a hm) e) (fun a ha J=>ha);have A3:mR w.params h2 σ' (wr++Z) D acc':=A'.tr kz3 (fun J J h=>h) fun o e=>hkeep D o hDw e
    have fz1:∀ a o,Fz σ Zb a→s0.heap.get? a=some o→h2.get? a=some o∧Fz σ' (wr++Z) a:=fun a o f e=>by
     have hnw:a∉wr:=fun h=>by rw[hwr a h] at e;exists e
     have hnz:a∉Z:=hfzb a o f e;have hwz:a∉wr++Z:=fun h=>(List.mem_append.mp h).elim hnw hnz;exact⟨hkeep a o hnw (g'.ext a o e (fun h=>by have:=f.lo;rw[h] at this;exact absurd this (by decide)) f.ns (fun h=>(List.mem_append.mp h).elim (fun h=>hnz (hXZ a h)) hnw) (.inl hwz)),f.lo,g'.mem e f.ns,hwz⟩
    have hv:VR w.params h2 σ' (wr++Z) l[i] v:=by
     refine hval i l[i] v s'.heap h2 σ' (wr++Z) (List.getElem?_eq_getElem hlt) hP fz1 g'.sig (fun a ha=>?_) S'.size;rcases ha with ha | ha
     ·exact S'.sd ha
     ·exact S'.zd a ha
    have g3':Go (wr++Z) σ ((D::Xw)++wr) s0 σ' {s' with heap:=h2,toks:=tk}:=g'.trans (g3.wide fun a h=>List.mem_append_right _ h)
    have turnEnd:∀ σ6 s6 acc6 ρ6 H6,Go (wr++Z) σ' (D::Xw) {s' with heap:=h2,toks:=tk} σ6 s6→St K w.params A σ6 (wr++Z) H6 s6→FR w.params σ6 (wr++Z) env ρ6 s6.heap→mR w.params s6.heap σ6 (wr++Z) D acc6→
      eR prog w K d hd env Xw ⟨target,iter,ifs,0⟩ inner (l.drop (i+1)) kk acc6 ρ6 H6→∃ m,m < l.length - i∧D0 K w.params A env D Z σ (D::Xw) wr s0 l Ws (fun l'=>eR prog w K d hd env Xw ⟨target,iter,ifs,0⟩ inner l' kk) m s6:=fun σ6 s6 acc6 ρ6 H6 g6 S6 F6 A6 hL6=>by
     refine⟨l.length - (i+1),Nat.sub_succ_lt_self _ _ hlt,σ6,ρ6,H6,acc6,i+1,rfl,hlt,g3'.trans (g6.wide fun a h=>List.mem_append_left _ h),S6,F6,A6,W.frame _ _ _ hst2 fun b hb o e=>?_,hL6⟩;rcases hfp b hb with hb | ⟨fb,ob,eb⟩
     ·exact g6.ext b o e (fun h=>by have:=hwr8 b hb;rw[h] at this;exact absurd this (by decide)) (fun h=>S'.apart b h (List.mem_append_left _ hb)) (fun h=>hwrZ b hb (hXZ b h)) (.inr (W.nd _ _ hst2 b hb o e))
     ·exact g6.ext b o e (fun h=>by have:=fb.lo;rw[h] at this;exact absurd this (by decide)) (fz1 b ob fb eb).2.ns (fun h=>hfzb b ob fb eb (hXZ b h)) (.inl (fz1 b ob fb eb).2.nz)
    have hXZ':∀ a∈Xw,a∈wr++Z:=fun a h=>List.mem_append_right _ (hXZ a (List.mem_cons_of_mem _ h))
    have keepD:∀ {σa σb:List Addr} {Xa:List Addr} {sa sb:Shared} {aa:List V},D∉σa→D∉Xa→mR w.params sa.heap σa (wr++Z) D aa→Go (wr++Z) σa Xa sa σb sb→∀ o,sa.heap.get? D=some o→sb.heap.get? D=some o:=fun h1 h2 ac gg o e=>
     gg.ext D o e (fun h=>by have:=hD8;rw[h] at this;exact absurd this (by decide)) h1 h2 (.inr (ac.nd o e))
    have hDσ:∀ {σa:List Addr} {sa:Shared} {Ha:Hp},St K w.params A σa (wr++Z) Ha sa→D∉σa:=fun Sa h=>Sa.apart D h (List.mem_append_right _ hDZ);have hDX:D∉Xw:=fun h=>hDo (sW _ (hXo D h));refine hT' A σ' (wr++Z) {s' with heap:=h2,toks:=tk} v _ _ hA S3 F3 hv (fun s4 σ4 ρ4 H4 g4 S4 F4 hE4=>wpAny_bind ?_) (fun e s' σ' x ρ' H' J J J J hf=>hf.elim);have A4:mR w.params s4.heap σ4 (wr++Z) D acc':=A3.tr (g4.keepFz hXZ') g4.sig (keepD (hDσ S3) hDX A3 g4);refine hE4 A σ4 (wr++Z) s4 _ _ hA S4 F4 (fun ok s5 σ5 H5 g5 S5 hk5=>?_) (fun e s' σ' x H' J J J hf=>False.elim hf);have F5:=F4.go S4 g5;have A5:mR w.params s5.heap σ5 (wr++Z) D acc':=A4.tr (g5.keepFz fun J h=>nomatch h) g5.sig (keepD (hDσ S4) List.not_mem_nil A4 g5);have g45:Go (wr++Z) σ' (D::Xw) {s' with heap:=h2,toks:=tk} σ5 s5:=(g4.trans (g5.wide (Y:=Xw) fun J h=>nomatch h)).wide fun a h=>List.mem_cons_of_mem _ h;cases ok with
    | false=>
     rw[if_neg (by decide)];exact wpAny_pure ⟨rfl,turnEnd σ5 s5 acc' ρ4 H5 g45 S5 F5 A5 hk5⟩
    | true=>
     rw[if_pos rfl];refine hin A σ5 (wr++Z) s5 acc' ρ4 H5 _ _ _ _ hA S5 F5 (List.mem_append_right _ hDZ) A5 hk5 fun s6 σ6 acc6 ρ6 H6 g6 S6 F6 A6 hk6=>?_;exact wpAny_pure ⟨rfl,turnEnd σ6 s6 acc6 ρ6 H6 (g45.trans g6) S6 F6 A6 hk6⟩
   ·have hil:i=l.length:=by omega
    subst hil;refine W.done s' _ _ hst' fun h' tk hkeep=>?_;rw[List.drop_length] at hT';have gz:Go Z σ (D::Xw) s0 σ' s':=(g'.cut hwr).less hwr
    exact wpAny_pure (hR _ σ' acc' ρ' H' (gz.after (W:=wr) hkeep hwr rfl rfl) (S'.tr (s':={s' with heap:=h',toks:=tk}) (S0.go gz) hkeep hwrZ rfl hwr8)
     (F'.tr (fun a o f e=>⟨hkeep a o (fun h=>f.nz (List.mem_append_left _ h)) e,f.mono fun J h=>List.mem_append_right _ h⟩) (fun J J h=>h) (fun a o J hm e=>hkeep a o (hwrm a hm) e) fun a ha hm=>(List.mem_append.mp ha).elim (fun q=>absurd q (hwrm a hm)) fun q=>q)
     (A'.tr (fun a o f e=>⟨hkeep a o (fun h=>f.nz (List.mem_append_left _ h)) e,f.mono fun J h=>List.mem_append_right _ h⟩) (fun J J h=>h) fun o e=>hkeep D o hDw e) hT')
  exact om hg loop (W.self 0 _ _ _ hst loop)
theorem qK{D:Addr}(hgens:∀ g∈gens,g.is_async=0∧∀ x,foldedSetIterable g.iter env x=pure x)(hDo:D∉cN env)(hXo:∀ a∈Xw,a∈own env)(hg:gens[depth]? =some g)(hin:xf prog w K d hd env Xw D inner (fun rest=>deeper (.ListComp elt gens scope pos) depth (.ref D) env elt rest gens[depth+1]?))(A:Around)(σ Z:List Addr)(s0 s₂:Shared)(it:Value)(l acc:List V)(ρ:ai)(H:Hp)(R:Result→Shared→Prop)(kk:List V→ai→Hp→Prop)(hA:cF A d hd)(S0:St K w.params A σ Z H s0)(F0:FR w.params σ Z env ρ s0.heap)(hDZ:D∈Z)(hacc:mR w.params s0.heap σ Z D acc)(hik:Ik prog w A g.target σ Z l s0 s₂ it)(hL:eR prog w K d hd env Xw g inner l kk acc ρ H)(hR:∀ s' σ' acc' ρ' H',Go Z σ (D::Xw) s0 σ' s'→St K w.params A σ' Z H' s'→FR w.params σ' Z env ρ' s'.heap→mR w.params s'.heap σ' Z D acc'→kk acc' ρ' H'→R (.ok .next) s'):
  codeAny (model prog w) A (.compStart (.ListComp elt gens scope pos) depth it (.ref D) env) R s₂:=by
 obtain⟨I,wr,fp,P,Ws,rfl,g2,hk2,W,hst,hwr,hfp,hval⟩:=hik;have hownZ:=F0.ownZ;have hwrZ:∀ a∈wr,a∉Z:=fun a ha hz=>by refine af (fun o e=>?_) (S0.zd a hz);rw[(hwr a ha).1] at e;exists e
 have hwr8:∀ a∈wr,378≤a:=fun a ha=>Nat.le_trans S0.size (hwr a ha).2;have hy:∀ a∈wr,s0.heap.get? a=none∧378≤a∧∃ o,s₂.heap.get? a=some o:=fun a ha=>⟨(hwr a ha).1,hwr8 a ha,W.dom 0 _ hst a (W.sub a ha)⟩
 refine kg hgens hDo hXo hg hin A σ Z Z s0 s₂ l acc ρ H R kk W hst S0.fr hA (S0.frame g2 (fun a o J e=>hk2 a o e) hy) (F0.frame S0 g2 fun a ha=>(hwr a ha).1) ?_ ((g2.more fun a h=>List.mem_append_right _ h).wide fun J h=>nomatch h) (fun a ha=>(hwr a ha).1) hwrZ hwr8 hownZ (F0.notIn fun a ha=>(hwr a ha).1) hDZ hfp (fun a o f J=>f.nz) hval hL
  fun s' σ' acc' ρ' H' g S F Ac hk=>hR s' σ' acc' ρ' H' g S F Ac hk
 obtain⟨ys,hl,hv⟩:=hacc;exact⟨ys,hl.at fun o e=>hk2 D o e,ak.go (g2.more fun a h=>List.mem_append_right _ h) (fun J h=>nomatch h) _ (ak.grow (fun a ha=>(hwr a ha).1) _ hv)⟩
theorem Go.keepD{σa σb Xa:List Addr}{sa sb:Shared}{Ha:Hp}{D:Addr}(Sa:St K w.params A σa Z Ha sa)(hDZ:D∈Z)(hX:D∉Xa){aa:List V}(ac:mR w.params sa.heap σa Z D aa)(gg:Go Z σa Xa sa σb sb):∀ o,sa.heap.get? D=some o→sb.heap.get? D=some o:=fun o e=>
 gg.ext D o e (fun h=>by have:=Sa.kz D hDZ;rw[h] at this;exact absurd this (by decide)) (fun h=>Sa.apart D h hDZ) hX (.inr (ac.nd o e))
theorem vq{D:Addr}(hDo:D∉cN env)(hno:gens[depth+1]? =none):
  xf prog w K d hd env Xw D (qD prog w K d hd env Xw elt []) (fun rest=>deeper (.ListComp elt gens scope pos) depth (.ref D) env elt rest gens[depth+1]?):=by
 intro A σ Z s5 acc ρ H kk rest Q E hA S5 F5 hDZ A5 hk5 hQ;dsimp only;rw[hno];show wpAny _ _ ((eval elt env >>= fun x=>call (.builtin "list.append") [.ref D,x] >>= fun J=>pure ()) >>= fun J=>_) _ _ s5
 replace hk5:acc.length≤1000∧Ev prog w K d hd env ρ (eval elt env) H (fun u H'=>kk (acc++[u]) ρ H') (fun J J=>False):=hk5
 refine wpAny_bind (wpAny_bind (hk5.2 A σ Z s5 _ _ hA S5 F5 (fun x s6 σ6 u H6 g6 S6 hx hk6=>wpAny_bind ?_) (fun e s' σ' x H' J J J hf=>False.elim hf)));have A6:mR w.params s6.heap σ6 Z D acc:=A5.tr (g6.keepFz fun J h=>nomatch h) g6.sig (Go.keepD S5 hDZ List.not_mem_nil A5 g6);obtain⟨ys,hys,hyv⟩:=A6
 have hsz:ys.size≤sizeLine:=by
  have:=hyv.length;have e:ys.toList.length=ys.size:=by walk_at "s"
  rw[←e,←this];exact Nat.le_trans hk5.1 (by decide)
 refine wpAny_list_append_plain (hsz:=hsz) hys fun h7 hl7 hs7=>wpAny_pure ?_
 have g7:Go Z σ6 (D::Xw) s6 σ6 {s6 with heap:=h7}:=.of ⟨fun b o e J J hb=>(hs7.2 b fun q=>hb (q▸List.mem_cons_self)).trans e,fun b o e=>by
   by_cases hb:b=D
   ·subst hb
    revert hl7;refine af fun n e1=>?_
    revert hys;refine af fun n2 e2=>?_
    rw[e2] at e;exists e;exact⟨_,e1,fun h=>by exists h⟩
   ·exact⟨o,(hs7.2 b hb).trans e,fun h=>h⟩,⟨[],by walk_at "s",fun J h=>nomatch h⟩,rfl,rfl⟩
 have g7':Go Z σ6 [D] s6 σ6 {s6 with heap:=h7}:=.of ⟨fun b o e J J hb=>(hs7.2 b fun q=>hb (q▸List.mem_cons_self)).trans e,g7.dom,g7.sub,rfl,rfl⟩;have k7:∀ a o,Fz σ6 Z a→s6.heap.get? a=some o→h7.get? a=some o∧Fz σ6 Z a:=fun a o f e=>⟨(hs7.2 a fun q=>f.nz (q▸hDZ)).trans e,f⟩
 refine hQ {s6 with heap:=h7} σ6 (acc++[u]) ρ H6 ((g6.wide (Y:=D::Xw) fun J h=>nomatch h).trans g7) (S6.go g7' (fun a h=>List.mem_singleton.mp h▸hDZ) fun a o ha e=>(hs7.2 a fun q=>S6.apt D (q▸ha) hDZ).trans e)
  ((F5.go S5 g6).tr k7 (fun J J h=>h) (fun a o J hm e=>(hs7.2 a fun q=>hDo (q▸ym hm)).trans e) fun J h J=>h) ⟨ys.push x,hl7,?_⟩ hk6
 rw[Array.toList_push];exact ak.snoc (VR.tr k7 (fun J J h=>h) _ hx) (ak.tr k7 (fun J J h=>h) _ hyv)
theorem pj{gens:List PySem.Comprehension}{scope:Scope}{pos:Pos}{D:Addr}(hgens:∀ g∈gens,g.is_async=0∧∀ x,foldedSetIterable g.iter env x=pure x)(hDo:D∉cN env)(hXo:∀ a∈Xw,a∈own env):
  ∀ (gs:List PySem.Comprehension) (depth:Nat),gens.drop (depth+1)=gs→xf prog w K d hd env Xw D (qD prog w K d hd env Xw elt gs) (fun rest=>deeper (.ListComp elt gens scope pos) depth (.ref D) env elt rest gens[depth+1]?)
 | []=>fun depth hdrop=>vq hDo (by have:=congrArg (·[0]?) hdrop;simpa using this)
 | g1::gs1=>fun depth hdrop=>by
  have hso:gens[depth+1]? =some g1:=by
   have:=congrArg (·[0]?) hdrop
   simpa using this
  have hdrop1:gens.drop (depth+1+1)=gs1:=by
   have:=congrArg (·.drop 1) hdrop
   simpa [List.drop_drop] using this
  intro A σ Z s5 acc ρ H kk rest Q E hA S5 F5 hDZ A5 hk5 hQ;dsimp only;rw[hso];show wpAny _ _ (eval g1.iter env >>= fun x=>standAt g1.iter.pos >>= fun J=>foldedSetIterable g1.iter env x >>= fun x=>holding [x] (pyIter x) >>= fun it'=>runOwn (.compStart (.ListComp elt gens scope pos) (depth+1) it' (.ref D) env) env >>= fun J=>_) _ _ s5
  replace hk5:Ie prog w K d hd env ρ g1.target (eval g1.iter env) H (fun l1 H1=>eR prog w K d hd env Xw g1 (qD prog w K d hd env Xw elt gs1) l1 kk acc ρ H1) (fun J J=>False):=hk5
  refine wpAny_bind (wpAny_mono (hk5 A σ Z s5 (fun it' s₂'=>wpAny (model prog w) A (runOwn (.compStart (.ListComp elt gens scope pos) (depth+1) it' (.ref D) env) env >>= fun J=>rest) Q E s₂') E hA S5 F5 (fun it' σ0 s0' H0 l1 s₂' g0 S0' hk0 ik=>?_) (fun e s' σ' x H' J J J hf=>False.elim hf))
   (fun x s1 h1=>wpAny_bind (wpAny_standAt (wpAny_bind (wpAny_of_eq ((hgens _ (List.mem_of_getElem? hso)).2 x) (wpAny_bind (wpAny_holding h1)))))) fun J J h=>h)
  refine wpAny_bind (wpAny_runOwn (qK hgens hDo hXo hso (pj hgens hDo hXo gs1 (depth+1) hdrop1) A σ0 Z s0' s₂' it' l1 acc ρ H0 _ _ hA S0' (F5.go S5 g0) hDZ (A5.tr (g0.keepFz fun J h=>nomatch h) g0.sig (Go.keepD S5 hDZ List.not_mem_nil A5 g0)) ik hk0 (fun s6 σ6 acc6 ρ6 H6 g6 S6 F6 A6 hk6=>?_)));exact hQ s6 σ6 acc6 ρ6 H6 ((g0.wide (Y:=D::Xw) fun J h=>nomatch h).trans g6) S6 F6 A6 hk6
end
noncomputable def eB(env:Env):List (Str × NameKind)→List (Str × Addr)→List (Str × Addr)
 | [],acc=>acc
 | (x,k)::r,acc=>if k== .free then eB env r ((x,(env.cells.lookup x).getD 0)::acc) else eB env r acc
theorem kS{k:NameKind}{r:List (Str × NameKind)}{acc:List (Str × Addr)}:eB env ((x,k)::r) acc=if k== .free then eB env r ((x,(env.cells.lookup x).getD 0)::acc) else eB env r acc:=rfl
theorem jK(h:∀ x,(x,NameKind.free)∈scope.names→(env.cells.lookup x).isSome=true):closureFor scope env=pure (eB env scope.names []):=by
 unfold closureFor
 suffices ∀ (names:List (Str × NameKind)) (acc:List (Str × Addr)),(∀ x,(x,NameKind.free)∈names→(env.cells.lookup x).isSome=true)→
   (forIn names acc fun p cs=>if p.2==NameKind.free then (do let a←cellOf env p.1;pure (ForInStep.yield ((p.1,a)::cs))) else (pure (ForInStep.yield cs):Sem (ForInStep (List (Str × Addr)))))=pure (eB env names acc) by
  have q:=this scope.names [] h;show(forIn scope.names [] _ >>= fun cs=>pure cs)=_;rw[show(forIn scope.names ([]:List (Str × Addr)) (fun(x:Str × NameKind) (r:List (Str × Addr))=>(match x with | (name,kind)=>if (kind==NameKind.free)=true then (do let a←cellOf env name;pure (ForInStep.yield ((name,a)::r))) else pure (ForInStep.yield r):Sem _)))=pure (eB env scope.names []) from q];rfl
 intro names
 induction names with
 | nil=>intro acc J;rfl
 | cons p r ih=>
  intro acc hn;obtain⟨x,kd⟩:=p;rw[List.forIn_cons];rw[kS]
  by_cases e:kd=.free
  ·subst e;refine af (fun c hc=>?_) (Option.isSome_iff_exists.mp (hn x List.mem_cons_self));have e2:cellOf env x=pure c:=by unfold cellOf;rw[hc]
   simp only[beq_self_eq_true,if_true,e2,hc,Option.getD_some];exact ih _ fun y hy=>hn y (List.mem_cons_of_mem _ hy)
  ·have e':(kd==NameKind.free)=false:=by simpa using e
   simp only[e',Bool.false_eq_true,if_false];exact ih _ fun y hy=>hn y (List.mem_cons_of_mem _ hy)
set_option tactic.hygienic true in
theorem g8{env:Env}:∀ (names:List (Str × NameKind)) (acc:List (Str × Addr)) (x:Str) (c:Addr),(x,c)∈eB env names acc→(x,c)∈acc∨((x,NameKind.free)∈names∧c=(env.cells.lookup x).getD 0)
 | []=>fun J J J h=>.inl h
 | (y,k)::r=>fun acc x c h=>by
  rw[kS] at h;split at h
  ·rename_i hk;have hk':k=.free:=by simpa using hk
   subst hk';rcases g8 r _ x c h with h | ⟨h1,h2⟩
   ·rcases List.mem_cons.mp h with e | h
    ·exists e;exact .inr ⟨List.mem_cons_self,rfl⟩
    ·exact .inl h
   ·exact .inr ⟨List.mem_cons_of_mem _ h1,h2⟩
  ·rcases g8 r _ x c h with h | ⟨h1,h2⟩
   ·exact .inl h
   ·exact .inr ⟨List.mem_cons_of_mem _ h1,h2⟩
theorem jI{env:Env}:∀ (names:List (Str × NameKind)) (acc:List (Str × Addr)) (p:Str × Addr),p∈acc→p∈eB env names acc
 | []=>fun J J h=>h
 | (y,k)::r=>fun acc p h=>by
  rw[kS];split
  ·exact jI r _ p (List.mem_cons_of_mem _ h)
  ·exact jI r _ p h
theorem jJ{env:Env}:∀ (names:List (Str × NameKind)) (acc:List (Str × Addr)) (x:Str),(x,NameKind.free)∈names→(x,(env.cells.lookup x).getD 0)∈eB env names acc
 | []=>fun J J h=>nomatch h
 | (y,k)::r=>fun acc x h=>by
  rw[kS];rcases List.mem_cons.mp h with e | h
  ·exists e;rw[if_pos (by rfl)];exact jI r _ _ List.mem_cons_self
  ·split
   ·exact jJ r _ x h
   ·exact jJ r _ x h
theorem n9{names:List (Str × NameKind)}(h:(x,NameKind.free)∈names):(eB env names []).lookup x=some ((env.cells.lookup x).getD 0):=by
 have hm:x∈(eB env names []).map (·.1):=List.mem_map.mpr ⟨_,jJ names [] x h,rfl⟩;refine af (fun c e=>?_) (Option.isSome_iff_exists.mp (cL _ x hm));rcases g8 names [] x c (mem_of_lookup e) with h | ⟨_,h2⟩
 ·exists h
 ·rw[e,h2]
theorem ci:∀ (names:List (Str × NameKind)) (n:Nat) (acc:List (Str × Addr)),cellsFrom n names acc=cellsFrom n names []++acc
 | []=>fun J J=>rfl
 | (y,k)::r=>fun n acc=>by
  rw[cellsFrom,cellsFrom];split
  ·rw[ci r (n+1) ((y,n)::acc),ci r (n+1) [(y,n)],List.append_assoc];rfl
  ·exact ci r n acc
variable{l r:List (Str × Addr)}
theorem iB(h:x∈l.map (·.1)):(l++r).lookup x=l.lookup x:=by
 induction l with
 | nil=>exists h
 | cons p l ih=>
  obtain⟨y,c⟩:=p;rw[List.cons_append,List.lookup_cons,List.lookup_cons];cases e:x==y with
  | true=>rfl
  | false=>
   rcases List.mem_cons.mp h with q | h
   ·rw[show x=y from q] at e;simp at e
   ·exact ih h
theorem il(h:x∉l.map (·.1)):(l++r).lookup x=r.lookup x:=by
 induction l with
 | nil=>rfl
 | cons p l ih=>
  obtain⟨y,c⟩:=p;have hne:(x==y)=false:=by simpa using fun e:x=y=>h (e▸List.mem_cons_self)
  rw[List.cons_append,List.lookup_cons,hne];exact ih fun q=>h (List.mem_cons_of_mem _ q)
theorem gR{env:Env}:∀ (names:List (Str × NameKind)) (x:Str),
  (names.map fun(n,k)=>if (k==NameKind.free&&env.scope.kind== .function&&env.kindOf n==some .cell) then (n,NameKind.cell) else (n,k)).lookup x=
   (names.lookup x).map fun k=>if (k==NameKind.free&&env.scope.kind== .function&&env.kindOf x==some .cell) then NameKind.cell else k
 | []=>fun J=>rfl
 | (n,k)::r=>fun x=>by
  rw[List.map_cons,List.lookup_cons];have e1:(if (k==NameKind.free&&env.scope.kind== .function&&env.kindOf n==some .cell)=true then (n,NameKind.cell) else (n,k))=(n,if (k==NameKind.free&&env.scope.kind== .function&&env.kindOf n==some .cell)=true then NameKind.cell else k):=by split <;> rfl
  show List.lookup x ((if (k==NameKind.free&&env.scope.kind== .function&&env.kindOf n==some .cell)=true then (n,NameKind.cell) else (n,k))::_)=_;rw[e1,List.lookup_cons,List.lookup_cons];cases hx:x==n with
  | true=>
   have e:x=n:=eq_of_beq hx;subst e;rfl
  | false=>exact gR r x
inductive ag (sc:Scope):ai→ai→Prop
 | nil:ag sc [] []
 | take {x:Str} {u:V} {r r':ai}:sc.names.lookup x=some .free→ag sc r r'→ag sc ((x,u)::r) ((x,u)::r')
 | skip {p:Str × V} {r r':ai}:ag sc r r'→ag sc (p::r) r'
theorem ag.mem(h:ag sc ρ ρ'):∀ x u,(x,u)∈ρ'→(x,u)∈ρ∧sc.names.lookup x=some .free:=by
 induction h with
 | nil=>intro x u h;exists h
 | take hx _ ih=>
  intro y u h;rcases List.mem_cons.mp h with e | h
  ·exists e;exact⟨List.mem_cons_self,hx⟩
  ·exact⟨List.mem_cons_of_mem _ (ih y u h).1,(ih y u h).2⟩
 | skip _ ih=>intro y u h;exact⟨List.mem_cons_of_mem _ (ih y u h).1,(ih y u h).2⟩
noncomputable def oj(sc scope:Scope):Bool:=
 scope.kind== .function&&decide (scope.names.map (·.1)).Nodup&&scope.names.all fun p=>p.2 != .free || (sc.names.lookup p.1==some .cell || sc.names.lookup p.1==some .free)
theorem jp:∀ (l:List (Str × NameKind)),(l.map (·.1)).Nodup→∀ x c,(x,c)∈l→l.lookup x=some c
 | []=>fun J J J h=>nomatch h
 | (y,c')::r=>fun hn x c h=>by
  rcases List.mem_cons.mp h with e | h
  ·exists e;simp
  ·have hn':=List.nodup_cons.mp hn;have hne:x≠y:=fun e=>hn'.1 (List.mem_map.mpr ⟨(x,c),h,e⟩);rw[List.lookup_cons,show(x==y)=false by simpa using hne];exact jp r hn'.2 x c h
set_option tactic.hygienic true in
theorem ek:∀ (l:List (Str × NameKind)) (x:Str),x∈bz l→(x,NameKind.cell)∈l
 | []=>fun J h=>nomatch h
 | (y,k)::r=>fun x h=>by
  rw[bz] at h;split at h
  ·rename_i hk;have hk':k=.cell:=by simpa using hk
   rcases List.mem_cons.mp h with e | h
   ·rw[e,hk'];exact List.mem_cons_self
   ·exact List.mem_cons_of_mem _ (ek r x h)
  ·exact List.mem_cons_of_mem _ (ek r x h)
section
variable{M:Model}{A:Around}{E:Value→Shared→Prop}{s:Shared}
variable{cl:List (Str × Addr)}
theorem vh{Q:Env→Shared→Prop}(h:Q {scope:=scope,locals:=s.heap.objs.size,globals:=env.globals,cells:=cellsFrom (s.heap.objs.size+1) scope.names []++cl,qual:=env.qual,func:=none,code:=env.code,frame:=env.frame,builtins:=env.builtins}
   {s with heap:=pushCells (s.heap.push {cls:=.type "dict",data:=.dict #[]}) scope.names}):
  wpAny M A (newFunctionEnv scope env.globals cl [] env.qual none .none (some env)) Q E s:=by
 simp only[newFunctionEnv,Option.isSome_some,if_true];refine wpAny_bind (wpAny_alloc ?_);refine wpAny_bind (wpAny_layCells _ (fun name kind cells=>by cases hkc:kind==NameKind.cell <;> simp[hkc]) _ _ _ _ ?_);rw[show({s with heap:=s.heap.push {cls:=.type "dict",data:=.dict #[]}}:Shared).heap.objs.size=s.heap.objs.size+1 from Heap.size_push ..,ci];exact wpAny_bind (wpAny_pure (wpAny_pure h))
end
variable{k:V→Hp→Prop}{kx:X→Hp→Prop}
structure xe(K:Frag)(P:Params)(A:Around)(env:Env)(ρ:ai)(σ Z:List Addr)(s:Shared)(D C:Addr)(Y:List Addr)(σ0:List Addr)(H0:Hp)(s0:Shared)(σ':List Addr)(s':Shared)(acc':List V)(H':Hp):Prop where
 g0:Go Z σ [] s σ0 s0
 S0:St K P A σ0 Z H0 s0
 F0:FR P σ0 Z env ρ s0.heap
 gz:Go Z σ0 [] s0 σ' s'
 S':St K P A σ' ((D::Y)++Z) H' s'
 ns:∃ m,s'.heap.Ns C m
 cy:C∈Y
 dy:D∉Y
 ac:mR P s'.heap σ' ((D::Y)++Z) D acc'
 fr:∀ a∈D::Y,s0.heap.get? a=none∧378≤a∧a∉Z
variable{g:PySem.Comprehension}{gs:List PySem.Comprehension}{cpos:Pos}{ρc:ai}
theorem ng{Xp:List Addr}(hsc:Sc env sc Xp)(hgens:∀ g'∈g::gs,g'.is_async=0∧∀ env x,foldedSetIterable g'.iter env x=pure x)(hok:oj sc scope=true)(hsel:ag scope ρ ρc){use:Option (Value→Sem Unit)}(hA:cF A d hd)(S:St K w.params A σ Z H s)(F:FR w.params σ Z env ρ s.heap)(hE:∀ e s' σ' x H',Go Z σ [] s σ' s'→St K w.params A σ' Z H' s'→XR K w.params A s.heap s' σ' Z H' x e→kx x H'→E e s')(h:Ie prog w K d hd env ρ g.target (eval g.iter env) H (fun l H1=>∀ cenv Xw,Sc cenv scope Xw→eR prog w K d hd cenv Xw g (qD prog w K d hd cenv Xw elt gs) l (fun acc J H2=>k (.lst acc) H2) [] ρc H1) kx)(hend:∀ D C Y σ0 H0 s0 σ' s' acc' H',xe K w.params A env ρ σ Z s D C Y σ0 H0 s0 σ' s' acc' H'→k (.lst acc') H'→compPost (model prog w) A E use Q (.ref D) C (.ok .next) s'):
  wpAny (model prog w) A (comprehension (.ListComp elt (g::gs) scope pos) scope env cpos (newList []) false (eval g.iter env) use) Q E s:=by
 have hgens':∀ g'∈g::gs,∀ env x,foldedSetIterable g'.iter env x=pure x:=fun g' h=>(hgens g' h).2;obtain⟨target,iter,ifs,asy⟩:=g;have hasy:asy=0:=(hgens _ List.mem_cons_self).1;subst hasy;unfold oj at hok;simp only[Bool.and_eq_true,decide_eq_true_eq] at hok;obtain⟨⟨hkd,hnod⟩,hall⟩:=hok;have hkind:scope.kind=.function:=eq_of_beq hkd
 have hfreeK:∀ x,(x,NameKind.free)∈scope.names→env.kindOf x=some .cell∨env.kindOf x=some .free:=fun x hx=>hsc.cf x (by
  have q:=(List.all_eq_true.mp hall) _ hx
  simpa using q)
 have hfreeC:∀ x,(x,NameKind.free)∈scope.names→(env.cells.lookup x).isSome=true:=fun x hx=>F.celD x (hfreeK x hx);have hnames:∀ x∈scope.names,scope.names.lookup x.1=some x.2:=fun x hx=>jp _ hnod x.1 x.2 hx;refine wpAny_comprehension_free (use:=use) (cl:=eB env scope.names []) rfl (fun x=>hgens' _ List.mem_cons_self env x) (jK hfreeC) hkind (fun x hx hl=>by rw[hnames x hx,hl]) ?_;refine h A σ Z s _ _ hA S F (fun it σ0 s0 H0 l s₂ g0 S0 hL hik=>?_) hE;have F0:=F.go S g0;obtain⟨I,wr,fp,P,Ws,rfl,g2,hk2,W,hst,hwr,hfp,hval⟩:=hik;refine wpAny_newObj_type (hd:=by size_fits) (vh ?_);dsimp only;generalize hD:s₂.heap.objs.size=D;generalize hH3:s₂.heap.push {cls:=.type "list",dict:=none,data:=.seq ([]:List Value).toArray}=H3;have hC:H3.objs.size=D+1:=by rw[←hH3,Heap.size_push,hD]
 generalize hCe:H3.objs.size=C at hC ⊢;have ok:=cellsFrom_ok scope.names (H3.push {cls:=.type "dict",data:=.dict #[]}) (C+1) [] ⟨fun J J hm=>(nomatch hm),List.Pairwise.nil⟩ (by rw[Heap.size_push,hCe];exact Nat.le_refl _);rw[Heap.size_push,hCe] at ok;have hns:(pushCells (H3.push {cls:=.type "dict",data:=.dict #[]}) scope.names).Ns C (fun J=>none):=hCe▸(Heap.Ns.new H3 (.type "dict")).keeps (pushCells_keeps _ _)
 have old:∀ b o,s₂.heap.get? b=some o→(pushCells (H3.push {cls:=.type "dict",data:=.dict #[]}) scope.names).get? b=some o:=fun b o e=>
  pushCells_keeps _ _ b o (Heap.get?_push_of_some _ (hH3▸Heap.get?_push_of_some _ e))
 have hDl:(pushCells (H3.push {cls:=.type "dict",data:=.dict #[]}) scope.names).PlainList D #[]:=
  ⟨_,pushCells_keeps _ _ D _ (Heap.get?_push_of_some _ (hH3▸hD▸Heap.get?_push_size _ rfl))⟩
 generalize hh4:pushCells (H3.push {cls:=.type "dict",data:=.dict #[]}) scope.names=h4 at ok hns old hDl ⊢;have hown:∀ x,x∈(cellsFrom (C+1) scope.names []).map (·.1)↔x∈bz scope.names:=fun x=>by rw[bK];simp
 generalize hoc:cellsFrom (C+1) scope.names []=oc at ok hown ⊢;generalize hcl:eB env scope.names []=cl
 have clm:∀ x c,(x,c)∈cl→(x,NameKind.free)∈scope.names∧(x,c)∈env.cells:=fun x c hm=>by
  rcases g8 scope.names [] x c (hcl▸hm) with h | ⟨h1,h2⟩
  ·exists h
  ·refine af (fun c' e=>?_) (Option.isSome_iff_exists.mp (hfreeC x h1));rw[e] at h2;exact⟨h1,by rw[h2];exact mem_of_lookup e⟩
 have hD8:378≤D:=by
  refine af (fun o e=>?_) (S0.bs.low 377 (by decide));rw[←hD];exact Heap.lt_size (hk2 _ o e)
 have old0:∀ (a:Nat) o,s0.heap.get? a=some o→a < D:=fun a o e=>by rw[←hD];exact Heap.lt_size (hk2 _ o e)
 have xd:∀ a:Nat,D≤a→s0.heap.get? a=none:=fun a ha=>by
  cases e:s0.heap.get? a with
  | none=>rfl
  | some o=>exact absurd (old0 a o e) (Nat.not_lt.mpr ha)
 have ocA:∀ (x:Str) (c:Nat),(x,c)∈oc→C+1≤c∧h4.IsCell c none:=fun x c hm=>⟨(ok.empty x c hm).2,(ok.empty x c hm).1⟩;generalize hY:D::C::oc.map (·.2)=Y
 have hYlo:∀ a:Nat,a∈Y→D≤a:=fun a ha=>by
  subst hY;rcases List.mem_cons.mp ha with rfl | ha
  ·exact Nat.le_refl _
  ·rcases List.mem_cons.mp ha with rfl | ha
   ·rw[hC];exact Nat.le_succ _
   ·refine af (fun q t=>?_) (List.mem_map.mp ha);obtain⟨x,c⟩:=q;revert t;refine am fun hm t=>?_;obtain rfl:=t;have:=(ocA x c hm).1;show D≤c;omega
 have hYe:∀ a∈Y,∃ o,h4.get? a=some o:=fun a ha=>by
  subst hY;rcases List.mem_cons.mp ha with rfl | ha
  ·revert hDl;refine af fun n e=>?_;exact⟨_,e⟩
  ·rcases List.mem_cons.mp ha with rfl | ha
   ·exact pT hns
   ·refine af (fun q t=>?_) (List.mem_map.mp ha);obtain⟨x,c⟩:=q;revert t;refine am fun hm t=>?_;obtain rfl:=t;refine ab (fun o e J=>?_) ((ocA x c hm).2);exact⟨o,e⟩
 have wrlt:∀ a:Nat,a∈wr→a < D:=fun a ha=>by
  refine af (fun o e=>?_) (W.dom 0 _ hst a (W.sub a ha));rw[←hD];exact Heap.lt_size e
 have hDY:D∈Y:=hY▸List.mem_cons_self;have hCY:C∈Y:=hY▸List.mem_cons_of_mem _ List.mem_cons_self;have hocY:∀ x c,(x,c)∈oc→c∈Y:=fun x c hm=>hY▸List.mem_cons_of_mem _ (List.mem_cons_of_mem _ (List.mem_map.mpr ⟨_,hm,rfl⟩))
 have ZltD:∀ a:Nat,a∈Z→a < D:=fun a ha=>by
  refine af (fun o e=>?_) (S0.zd a ha);exact old0 a o e
 have celZ0:∀ x c,(x,c)∈cl→c∈Z∨(Fz σ0 Z c∧env.kindOf x=some .free):=fun x c hm=>(F0.celZ x c (clm x c hm).2).1;have celLt:∀ (x:Str) (c:Nat),(x,c)∈cl→c < D:=fun x c hm=>by refine aV (fun J o e J=>?_) (F0.cex x c (clm x c hm).2);exact old0 c o e
 have g4:∀ Z,Go Z σ0 [] s0 σ0 {s₂ with heap:=h4}:=fun Z=>.of ⟨fun b o e J J J=>old b o (hk2 b o e),fun b o e=>⟨o,old b o (hk2 b o e),fun h=>h⟩,⟨[],by walk_at "s",fun J h=>nomatch h⟩,g2.os,g2.gens⟩
 have hyy:∀ a∈wr++Y,s0.heap.get? a=none∧378≤a∧∃ o,h4.get? a=some o:=fun a ha=>by
  rcases List.mem_append.mp ha with ha | ha
  ·refine af (fun o e=>?_) (W.dom 0 _ hst a (W.sub a ha));exact⟨(hwr a ha).1,Nat.le_trans S0.size (hwr a ha).2,o,old a o e⟩
  ·exact⟨xd a (hYlo a ha),Nat.le_trans hD8 (hYlo a ha),hYe a ha⟩
 have S4:St K w.params A σ0 (wr++(Y++Z)) H0 {s₂ with heap:=h4}:=by
  have:=S0.frame (Y:=wr++Y) (g4 _) (fun a o J e=>old a o (hk2 a o e)) hyy
  rwa [List.append_assoc] at this
 generalize hce:({scope:=relabel scope env,locals:=C,globals:=env.globals,cells:=oc++cl,qual:=env.qual,func:=none,code:=env.code,frame:=env.frame,builtins:=env.builtins}:Env)=cenv;have ceC:cenv.locals=C:=by rw[←hce]
 have ceCells:cenv.cells=oc++cl:=by rw[←hce]
 have ceK:∀ x,cenv.kindOf x=(scope.names.lookup x).map fun k=>if (k==NameKind.free&&env.scope.kind== .function&&env.kindOf x==some .cell) then NameKind.cell else k:=fun x=>by
  rw[←hce];exact gR scope.names x
 have ceFree:∀ x,scope.names.lookup x=some .free→cenv.kindOf x=some .cell∨cenv.kindOf x=some .free:=fun x e=>by
  rw[ceK,e];simp only[Option.map_some];split
  ·exact .inl rfl
  ·exact .inr rfl
 have ceOther:∀ x kd,kd≠ .free→scope.names.lookup x=some kd→cenv.kindOf x=some kd:=fun x kd hne e=>by
  rw[ceK,e];have:(kd==NameKind.free)=false:=by simpa using hne
  rw[Option.map_some,this];rfl
 have lkFree:∀ x,scope.names.lookup x=some .free→cenv.cells.lookup x=env.cells.lookup x:=fun x e=>by
  rw[ceCells]
  have hnm:x∉oc.map (·.1):=fun q=>by
   have:=hnames _ (ek _ x ((hown x).mp q));rw[e] at this;exists this
  rw[il hnm,←hcl,n9 (mem_of_lookup e)];refine af (fun c ec=>?_) (Option.isSome_iff_exists.mp (hfreeC x (mem_of_lookup e)));rw[ec];rfl
 have lkCell:∀ x,scope.names.lookup x=some .cell→∃ c,cenv.cells.lookup x=some c∧(x,c)∈oc:=fun x e=>by
  have hm:x∈oc.map (·.1):=(hown x).mpr (dO _ x e);rw[ceCells,iB hm];refine af (fun c ec=>?_) (Option.isSome_iff_exists.mp (cL _ x hm));exact⟨c,ec,mem_of_lookup ec⟩
 have hownE:cN cenv=C::(oc++cl).map (·.2):=by unfold cN;rw[ceC,ceCells]
 have ocK:∀ x c,(x,c)∈oc→cenv.kindOf x=some .cell:=fun x c hm=>ceOther x _ (by decide) (hnames _ (ek _ x ((hown x).mp (List.mem_map.mpr ⟨_,hm,rfl⟩))))
 have clK:∀ x c,(x,c)∈cl→env.kindOf x=some .free→cenv.kindOf x=some .free:=fun x c hm hf=>by
  rw[ceK,hnames _ (clm x c hm).1,hf];simp
 have hscC:Sc cenv scope (C::oc.map (·.2)):=by
  refine⟨fun x e=>ceOther x _ (by decide) e,fun x e=>?_,fun x e=>e.elim (fun e=>.inl (ceOther x _ (by decide) e)) (ceFree x),fun a ha=>?_,fun x e=>ceOther x _ (by decide) e,fun x e=>ceOther x _ (by decide) e⟩
  ·unfold aG at e;rw[Bool.and_eq_true,Bool.or_eq_true] at e;rcases e.1 with q | q
   ·exact .inl ⟨ceOther x _ (by decide) (eq_of_beq q),ceC▸List.mem_cons_self⟩
   ·refine .inr ⟨ceOther x _ (by decide) (eq_of_beq q),fun c hc=>?_⟩;refine ab (fun c' e1 e2=>?_) (lkCell x (eq_of_beq q));rw[e1] at hc;exists hc;exact List.mem_cons_of_mem _ (List.mem_map.mpr ⟨_,e2,rfl⟩)
  ·rcases List.mem_cons.mp ha with rfl | ha
   ·rw[←ceC];exact List.mem_cons_self
   ·refine af (fun q t=>?_) (List.mem_map.mp ha);obtain⟨x,c⟩:=q;revert t;refine am fun hm t=>?_;obtain rfl:=t;exact pV (by rw[ceCells];exact List.mem_append_left _ hm) (ocK x c hm)
 have hownZ:∀ a∈own cenv,a∈Y++Z:=fun a ha=>by
  rcases sU ha with rfl | ⟨x,hm,hk⟩
  ·rw[ceC];exact List.mem_append_left _ hCY
  ·rw[ceCells] at hm;rcases List.mem_append.mp hm with hm | hm
   ·exact List.mem_append_left _ (hocY x a hm)
   ·rcases celZ0 x a hm with q | ⟨_,q⟩
    ·exact List.mem_append_right _ q
    ·rw[clK x a hm q] at hk;exists hk
 have hDo:D∉cN cenv:=fun ha=>by
  rw[hownE] at ha;rcases List.mem_cons.mp ha with e | ha
  ·rw[hC] at e;exact absurd e (Nat.ne_of_lt (Nat.lt_succ_self _))
  ·refine af (fun q t=>?_) (List.mem_map.mp ha);obtain⟨x,c⟩:=q;revert t;refine am fun hm e=>?_;have e':c=D:=e;rcases List.mem_append.mp hm with hm | hm
   ·have:=(ocA x c hm).1;omega
   ·have:=celLt x c hm;omega
 have hvr:∀ u v,VR w.params s0.heap σ0 Z u v→VR w.params h4 σ0 (wr++(Y++Z)) u v:=fun u v q=>by
  have q1:=VR.go (g4 _) (fun J h=>nomatch h) _ (VR.grow (Y:=wr++Y) (fun a ha=>(hyy a ha).1) u q)
  rwa [List.append_assoc] at q1
 have F4:FR w.params σ0 (wr++(Y++Z)) cenv ρc h4:=by
  have hsm:=hsel.mem;refine⟨by rw[←hce];exact hkind,by rw[←hce];exact F.glob,by rw[←hce];exact F.blt,⟨_,ceC▸hns,fun x u e1 e2=>?_⟩,fun x u e1 J=>?_,fun x u e1=>.inr (ceFree x (hsm x u e1).2),?_,fun x c hm=>?_,fun x y c h1 h2=>?_,fun x c hm=>?_,fun x u e1=>F0.plain x u (hsm x u e1).1,fun x e=>?_⟩
  ·rcases ceFree x (hsm x u e1).2 with q | q <;> (rw[q] at e2;exists e2)
  ·refine am (fun m1 m2=>?_) (hsm x u e1);refine ee (fun c v e3 hc hv=>?_) (F0.cell x u m1 (hfreeK x (mem_of_lookup m2)));exact⟨c,v,(lkFree x m2).trans e3,cK hc fun o e=>old _ _ (hk2 _ _ e),hvr u v hv⟩
  ·rw[ceC];exact List.mem_append_right _ (List.mem_append_left _ hCY)
  ·rw[ceCells] at hm;rcases List.mem_append.mp hm with hm | hm
   ·refine⟨.inl (List.mem_append_right _ (List.mem_append_left _ (hocY x c hm))),?_⟩;rw[ceC];exact Nat.ne_of_gt (ocA x c hm).1
   ·refine⟨?_,?_⟩
    ·have lt:=celLt x c hm;rcases celZ0 x c hm with q | ⟨f,q⟩
     ·exact .inl (List.mem_append_right _ (List.mem_append_right _ q))
     refine .inr ⟨⟨f.lo,f.ns,fun r=>?_⟩,clK x c hm q⟩;rcases List.mem_append.mp r with r | r
     ·refine aV (fun J o e J=>?_) (F0.cex x c (clm x c hm).2);rw[(hwr c r).1] at e;exists e
     ·rcases List.mem_append.mp r with r | r
      ·exact absurd lt (Nat.not_lt.mpr (hYlo c r))
      ·exact f.nz r
    ·rw[ceC];exact Nat.ne_of_lt (Nat.lt_trans (celLt x c hm) (hC▸Nat.lt_succ_self _))
  ·rw[ceCells] at h1 h2;rcases List.mem_append.mp h1 with h1 | h1 <;> rcases List.mem_append.mp h2 with h2 | h2
   ·exact name_of_addr ok.apart h1 h2
   ·exfalso;have a1:=(ocA x c h1).1;have a2:=celLt y c h2;omega
   ·exfalso;have a1:=(ocA y c h2).1;have a2:=celLt x c h1;omega
   ·exact F0.one x y c (clm x c h1).2 (clm y c h2).2
  ·rw[ceCells] at hm;rcases List.mem_append.mp hm with hm | hm
   ·exact⟨_,(ocA x c hm).2⟩
   ·refine af (fun o hc=>?_) (F0.cex x c (clm x c hm).2);exact⟨o,cK hc fun o e=>old _ _ (hk2 _ _ e)⟩
  ·have hl:scope.names.lookup x=some .cell∨scope.names.lookup x=some .free:=by
    rw[ceK] at e;cases hx:scope.names.lookup x with
    | none=>rw[hx] at e;rcases e with e | e <;> exists e
    | some kd=>
     cases kd with
     | cell=>exact .inl rfl
     | free=>exact .inr rfl
     | _=>rw[hx] at e;rcases e with e | e <;> exists e
   rcases hl with hl | hl
   ·refine ab (fun c e1 J=>?_) (lkCell x hl);rw[e1];rfl
   ·rw[lkFree x hl];exact hfreeC x (mem_of_lookup hl)
 have hwrm:∀ a,Mc cenv a→a∉wr:=fun a hm q=>by
  have lt:=wrlt a q;rcases hm with rfl | ⟨x,hm⟩
  ·rw[ceC] at lt;omega
  ·rw[ceCells] at hm;rcases List.mem_append.mp hm with hm | hm
   ·have:=(ocA x a hm).1;omega
   ·refine aV (fun J o e J=>?_) (F0.cex x a (clm x a hm).2);rw[(hwr a q).1] at e;exists e
 refine kg (hgens:=fun g' h'=>⟨(hgens g' h').1,fun x=>hgens' g' h' cenv x⟩) hDo (fun a ha=>hscC.ow a ha) (g:=⟨target,iter,ifs,0⟩) rfl (pj (fun g' h'=>⟨(hgens g' h').1,fun x=>hgens' g' h' cenv x⟩) hDo (fun a ha=>hscC.ow a ha) gs 0 rfl) A σ0 (Y++Z) Z s0 _ l [] ρc H0 _ _ W
  (W.frame 0 _ _ hst fun b J o e=>old b o e) (S0.fr.tr rfl (fun a h=>List.mem_append_right _ h) fun J o J e=>⟨o,e,fun h=>h⟩) hA S4 F4 ⟨#[],hDl,ak.nil⟩ ((g4 _).wide fun J h=>nomatch h) (fun a ha=>(hwr a ha).1) (fun a ha hz=>?_) (fun a ha=>Nat.le_trans S0.size (hwr a ha).2) hownZ hwrm (List.mem_append_left _ hDY) hfp (fun a o f e hz=>?_) hval (hL cenv _ hscC) ?_
 ·rcases List.mem_append.mp hz with hz | hz
  ·have h1:=wrlt a ha;have h2:=hYlo a hz;omega
  ·refine af (fun o e=>?_) (S0.zd a hz);rw[(hwr a ha).1] at e;exists e
 ·rcases List.mem_append.mp hz with hz | hz
  ·rw[xd a (hYlo a hz)] at e;exists e
  ·exact f.nz hz
 ·intro s' σ' acc' ρ' H' gg S' F' A' hk;obtain⟨m,hm,_⟩:=F'.ns;rw[ceC] at hm;have gg':Go (Y++Z) σ0 ([]++(D::C::oc.map (·.2))) s0 σ' s':=gg;have gz:Go Z σ0 [] s0 σ' s':=(gg'.cut fun a ha=>xd a (hYlo a (hY▸ha))).less fun a ha=>xd a (hYlo a ha);have hYZ:∀ a∈Y,a∉Z:=fun a ha hz=>by have h1:=hYlo a ha;have h2:=ZltD a hz;omega
  have hY8:∀ a∈Y,378≤a:=fun a ha=>Nat.le_trans hD8 (hYlo a ha);subst hY;refine hend D C (C::oc.map (·.2)) σ0 H0 s0 σ' s' acc' H' ⟨g0,S0,F0,gz,S',⟨m,hm⟩,List.mem_cons_self,fun hd=>?_,A',fun a ha=>⟨xd a (hYlo a ha),hY8 a ha,hYZ a ha⟩⟩ hk;rcases List.mem_cons.mp hd with e | hd
  ·rw[hC] at e;exact absurd e (Nat.ne_of_lt (Nat.lt_succ_self _))
  ·refine af (fun q t=>?_) (List.mem_map.mp hd);obtain⟨x,c⟩:=q;revert t;refine am fun hm e=>?_;have e':c=D:=e;exact absurd (Nat.le_trans (ocA x c hm).1 (by rw[e',hC];exact Nat.le_succ D)) (Nat.not_succ_le_self C)
theorem au{Xp:List Addr}(hsc:Sc env sc Xp)(hgens:∀ g'∈g::gs,g'.is_async=0∧∀ env x,foldedSetIterable g'.iter env x=pure x)(hok:oj sc scope=true)(hsel:ag scope ρ ρc)(h:Ie prog w K d hd env ρ g.target (eval g.iter env) H (fun l H1=>∀ cenv Xw,Sc cenv scope Xw→eR prog w K d hd cenv Xw g (qD prog w K d hd cenv Xw elt gs) l (fun acc J H2=>k (.lst acc) H2) [] ρc H1) kx):
  Ev prog w K d hd env ρ (eval (.ListComp elt (g::gs) scope pos) env) H k kx:=by
 intro A σ Z s Q E hA S F hQ hE;rw[eval_ListComp];have hg0:g.is_async=0:=(hgens _ List.mem_cons_self).1;obtain⟨target,iter,ifs,asy⟩:=g;have hasy:asy=0:=hg0;subst hasy;refine ng hsc hgens hok hsel (use:=none) hA S F hE h fun D C Y σ0 H0 s0 σ' s' acc' H' x hk=>?_;obtain⟨m,hm⟩:=x.ns;have gz:=x.gz;have S':=x.S';refine⟨m,hm,fun h' hs'=>?_⟩;have hCY:C∈D::Y:=List.mem_cons_of_mem _ x.cy;have hC0:s0.heap.get? C=none:=(x.fr C hCY).1;have gf:Go Z σ0 [] s0 σ' {s' with heap:=h'}:=gz.after (W:=[C]) (fun b o hb e=>(hs'.2 b fun q=>hb (q▸List.mem_singleton.mpr rfl)).trans e) (fun b hb=>(List.mem_singleton.mp hb)▸hC0) rfl rfl;have Sf:St K w.params A σ' Z H' {s' with heap:=h'}:=S'.tr (s':={s' with heap:=h'}) (x.S0.fr.go gz) (fun b o hb e=>(hs'.2 b fun q=>hb (q▸hCY)).trans e) (fun a ha=>(x.fr a ha).2.2) rfl fun a ha=>(x.fr a ha).2.1;obtain⟨ys,hys,hyv⟩:=x.ac;refine hQ (.ref D) _ σ' (.lst acc') H' (x.g0.trans gf) Sf ?_ hk;have hDC:D≠C:=fun e=>x.dy (e▸x.cy);have hDm:D∈D::Y:=List.mem_cons_self;refine⟨D,ys,rfl,⟨(x.fr D hDm).2.1,fun q=>S'.apart D q (List.mem_append_left _ hDm),(x.fr D hDm).2.2⟩,hys.at (fun o e=>(hs'.2 D hDC).trans e),ak.tr (fun a o f e=>⟨(hs'.2 a fun q=>f.nz (q▸List.mem_append_left _ hCY)).trans e,f.mono fun J h=>List.mem_append_right _ h⟩) (fun J J h=>h) _ hyv⟩
inductive gy (K:Frag):V→Value→Prop
 | bi (id:String):gy K (.bi id) (.builtin id)
 | ty (n:String):gy K (.ty n) (.type n)
 | gl {a:Addr} {o:Obj} {fd:FuncData}:K.lookup a=some o→o.data=.func fd→gy K (.gl a) (.ref a)
variable{kx:X→Hp→Prop}
variable{uf:V}{f:Value}
theorem gy.vr(c:gy K uf f)(q:VR P h σ Z uf v):v=f:=by
 cases c <;> (exact q)
variable{e:PySem.Expr}{rest:List PySem.Expr}
theorem callWith_of{M:Model}(c:gy K uf f)(he:starEach (e::rest) env=(false,eval e env)::starEach rest env)(hplain:(backTo pos (starEach rest env)).any (·.1)=false)(h:wpAny M A (spliced (backTo pos (starEach (e::rest) env))) (fun vs s₁=>(∀ a o,K.lookup a=some o→s₁.heap.get? a=some o)∧wpAny M A (call f vs) Q E s₁) E s):
  wpAny M A (callWith pos f [] (backTo pos (starEach (e::rest) env)) []) Q E s:=by
 rw[he] at h ⊢
 have hp:(backTo pos ((false,eval e env)::starEach rest env)).any (·.1)=false:=by
  show(false || (backTo pos (starEach rest env)).any (·.1))=false;rw[hplain];rfl
 cases c with
 | bi id=>exact Calls.callWith_builtin hp (Calls.evalArgs_plain (wpAny_mono h (fun J J q=>q.2) fun J J q=>q))
 | ty n=>exact PyProof.Rows.callWith_type hp (Calls.evalArgs_plain (wpAny_mono h (fun J J q=>q.2) fun J J q=>q))
 | gl h1 h2=>exact Calls.callWith_function (Calls.evalArgs_plain (wpAny_mono h (fun J J q=>⟨⟨q.1 _ _ h1,h2⟩,q.2⟩) fun J J q=>q))
variable{p:Pos}
theorem ou(c:gy K uf f)(he:starEach (e::rest) env=(false,eval e env)::starEach rest env)(hplain:(backTo pos (starEach rest env)).any (·.1)=false)(h:Ev prog w K d hd env ρ (eval (.Name x p) env) H (fun u H1=>u=uf∧Es prog w K d hd env ρ (spliced (backTo pos (starEach (e::rest) env))) H1 (tz prog w K d hd (fun vs=>call f vs) k kx) kx) kx):
  Ev prog w K d hd env ρ (eval (.Call (.Name x p) (e::rest) [] pos) env) H k kx:=by
 intro A σ Z s Q E hA S F hQ hE;refine Call_Name rfl (h A σ Z s _ _ hA S F (fun v s1 σ1 u H1 g1 S1 hu hk=>?_) hE)
 revert hk;refine am fun q hk=>?_;obtain rfl:=q
 have:=c.vr hu;subst this;refine callWith_of c he hplain (hk A σ1 Z s1 _ _ hA S1 (F.go S g1) (fun vs s2 σ2 us H2 g2 S2 hus hk2=>⟨fun a o e=>S2.at e,?_⟩) (hE.go g1));exact hk2 A σ2 Z s2 vs _ _ hA S2 hus (hQ.go (g1.trans g2)) (hE.go (g1.trans g2))
theorem x7(c:gy K uf f)(he:starEach (e::rest) env=(false,eval e env)::starEach rest env)(hplain:(backTo pos (starEach rest env)).any (·.1)=false)(h:Ev prog w K d hd env ρ (eval (.Name x p) env) H (fun u H1=>u=uf∧Es prog w K d hd env ρ (spliced (backTo pos (starEach (e::rest) env))) H1 (zZ prog w K d hd tg (fun vs=>call f vs) kI) kx) kx):
  Ie prog w K d hd env ρ tg (eval (.Call (.Name x p) (e::rest) [] pos) env) H kI kx:=by
 intro A σ Z s Q E hA S F hQ hE;refine Call_Name rfl (h A σ Z s _ _ hA S F (fun v s1 σ1 u H1 g1 S1 hu hk=>?_) hE)
 revert hk;refine am fun q hk=>?_;obtain rfl:=q
 have:=c.vr hu;subst this;refine callWith_of c he hplain (hk A σ1 Z s1 _ _ hA S1 (F.go S g1) (fun vs s2 σ2 us H2 g2 S2 hus hk2=>⟨fun a o e=>S2.at e,?_⟩) (hE.go g1));obtain⟨l,hit,hk2⟩:=hk2;exact hit A σ2 Z s2 vs _ _ hA S2 hus fun v s₂ ik=>hQ v σ2 s2 H2 l s₂ (g1.trans g2) S2 hk2 ik
variable{P:Nat→Value→Heap→Heap→Prop}
theorem Wk.cast{I:Addr}{m:Nat}{Ws:Nat→Heap→Prop}(W:Wk prog w A tg I wr fp n P Ws)(e:n=m):Wk prog w A tg I wr fp m P Ws:=e▸W
theorem Wk.listT(hh:A.handled=none)(I ax:Addr)(hne:ax≠I)(items:Array Value):
  Wk prog w A (.Tuple elts kk pos) I [I] [I,ax] items.size (fun i v J J=>items[i]? =some v) (fun i h=>h.IsListIter I ax i∧h.IsList ax items) where
 sub:=(Walks.list (prog:=prog) (w:=w) hh I ax hne items).sub
 dom:=fun i h st b hb=>by
  rcases List.mem_cons.mp hb with rfl | hb
  ·refine ab (fun o e J=>?_) st.1;exact⟨o,e⟩
  ·refine ab (fun o e J=>?_) st.2;exact⟨o,(List.mem_singleton.mp hb)▸e⟩
 nd:=fun i h st b hb o e=>by refine fo (fun o' e' J hd'=>?_) st.1;rw[List.mem_singleton.mp hb,e'] at e;exists e;unfold cT;rw[hd']
 frame:=(Walks.list (prog:=prog) (w:=w) hh I ax hne items).frame
 item:=fun i s Q E hi st hQ=>(Walks.list (prog:=prog) (w:=w) hh I ax hne items).item i s Q E hi st fun v h' tk hP hst hk=>hQ v h' tk fun Q2 E2 hq=>by
  have fin:=hq h' hP hst hk;cases v with
  | ref T=>exact wpAny_letOwnedTupleGo_listiter hst.1 fin
  | _=>exact wpAny_pure fin
 done:=(Walks.list (prog:=prog) (w:=w) hh I ax hne items).done
 self:=(Walks.list (prog:=prog) (w:=w) hh I ax hne items).self
variable{P:Params}
theorem fV(S:St K P A σ Z H s)(e:s.heap.get? a=some o):a≠s.heap.objs.size:=Nat.ne_of_lt (Heap.lt_size e)
variable{l:List V}
theorem lR{P:Nat→Value→Heap→Heap→Prop}{Ws:Nat→Heap→Prop}(hn:n=l.length)(W:Wk prog w A tg s.heap.objs.size [s.heap.objs.size] fp n P Ws)(hst:Ws 0 (s.heap.push o))(hfp:∀ b∈fp,b=s.heap.objs.size∨(Fz σ Z b∧∃ o,s.heap.get? b=some o))(hval:∀ (i:Nat) x y h h' σ' Z',l[i]? =some x→P i y h h'→(∀ a o,Fz σ Z a→s.heap.get? a=some o→h'.get? a=some o∧Fz σ' Z' a)→(∀ (r:Nat) a,σ[r]? =some a→σ'[r]? =some a)→
    (∀ a,a∈σ'∨a∈Z'→∃ o,h.get? a=some o)→378≤h.objs.size→VR w.params h' σ' Z' x y):Ik prog w A tg σ Z l s {s with heap:=s.heap.push o} (.ref s.heap.objs.size):=
 ⟨_,_,_,_,_,rfl,Go.push Z σ s o s.toks,fun b o' e=>Heap.get?_push_of_some _ e,W.cast hn,hst,fun b hb=>by
  rw[List.mem_singleton.mp hb];exact⟨Heap.get?_none_of_le (Nat.le_refl _),Nat.le_refl _⟩,fun b hb=>(hfp b hb).imp (fun e=>List.mem_singleton.mpr e) fun q=>q,hval⟩
theorem aS(hn:hd.h=true):Iv prog w K d hd (.Name x p) (.lst l) l H:=by
 intro A σ Z s v Q E hA S hv hQ;obtain⟨a,vs,rfl,f,hpl,hvs⟩:=hv;have hl:=hpl.isList;refine ab (fun o ho J=>?_) (id hl);have hne:=fV S ho;have hh:A.handled=none:=hA.none hn;refine wpAny_pyIter_list hl (hQ _ _ (lR (P:=fun i v J J=>vs[i]? =some v) (Ws:=fun i h=>h.IsListIter s.heap.objs.size a i∧h.IsList a vs) (fp:=[s.heap.objs.size,a]) (n:=vs.size) ?_ (Wk.of_walks (Walks.list hh _ a hne vs) (fun J=>rfl) (fun i h st b hb=>?_) (fun i h st b hb o e=>by refine fo (fun o' e' J hd'=>?_) st.1;rw[List.mem_singleton.mp hb,e'] at e;exists e;unfold cT;rw[hd'])) ⟨⟨_,Heap.get?_push_size _ rfl,rfl,rfl⟩,hl.at fun o e=>Heap.get?_push_of_some _ e⟩ (fun b hb=>?_) fun i x y h h' σ' Z' hx hP hf hs J J=>?_))
 ·rw[hvs.length];simp
 ·rcases List.mem_cons.mp hb with rfl | hb
  ·refine ab (fun o e J=>?_) st.1;exact⟨o,e⟩
  ·refine ab (fun o e J=>?_) st.2;exact⟨o,(List.mem_singleton.mp hb)▸e⟩
 ·rcases List.mem_cons.mp hb with rfl | hb
  ·exact .inl rfl
  ·exact .inr ((List.mem_singleton.mp hb)▸⟨f,o,ho⟩)
 ·refine ab (fun v e1 hv=>?_) (ak.get (ak.tr hf hs l hvs) hx);have e2:vs[i]? =some v:=by rw[←Array.getElem?_toList];exact e1
  rw[hP] at e2;exists e2;exact hv
theorem oC(hn:hd.h=true):Iv prog w K d hd (.Tuple elts kk p) (.lst l) l H:=by
 intro A σ Z s v Q E hA S hv hQ;obtain⟨a,vs,rfl,f,hpl,hvs⟩:=hv;have hl:=hpl.isList;refine ab (fun o ho J=>?_) (id hl);have hne:=fV S ho;have hh:A.handled=none:=hA.none hn;refine wpAny_pyIter_list hl (hQ _ _ (lR (P:=fun i v J J=>vs[i]? =some v) (Ws:=fun i h=>h.IsListIter s.heap.objs.size a i∧h.IsList a vs) (fp:=[s.heap.objs.size,a]) (n:=vs.size) ?_ (Wk.listT hh _ a hne vs) ⟨⟨_,Heap.get?_push_size _ rfl,rfl,rfl⟩,hl.at fun o e=>Heap.get?_push_of_some _ e⟩ (fun b hb=>?_) fun i x y h h' σ' Z' hx hP hf hs J J=>?_))
 ·rw[hvs.length];simp
 ·rcases List.mem_cons.mp hb with rfl | hb
  ·exact .inl rfl
  ·exact .inr ((List.mem_singleton.mp hb)▸⟨f,o,ho⟩)
 ·refine ab (fun v e1 hv=>?_) (ak.get (ak.tr hf hs l hvs) hx);have e2:vs[i]? =some v:=by rw[←Array.getElem?_toList];exact e1
  rw[hP] at e2;exists e2;exact hv
noncomputable def dY(x:Str):List V:=x.cps.toList.map fun c=>.str ⟨#[c]⟩
theorem lX(hn:hd.h=true):Iv prog w K d hd (.Name y p) (.str x) (dY x) H:=by
 intro A σ Z s v Q E hA S hv hQ
 revert hv;refine af fun t t=>?_;obtain rfl:=t
 have hlen:x.cps.size=(dY x).length:=by simp[dY]
 have val:∀ (i:Nat) z y (h h':Heap) (σ' Z':List Addr),(dY x)[i]? =some z→SignAt x i y→VR w.params h' σ' Z' z y:=fun i z y h h' σ' Z' hz hs=>by
  revert hs;refine aV fun c u hc t=>?_;obtain rfl:=t
  unfold dY at hz;rw[List.getElem?_map,Array.getElem?_toList,hc] at hz;exists hz;exact⟨u,rfl⟩
 cases ha:x.cps.all (· < 128)
 ·exact wpAny_pyIter_wide ha (hQ _ _ (lR hlen (Wk.of_walks (Walks.strWide (hA.none hn) _ x t) (fun J=>rfl) (fun i h st b hb=>by revert st;refine ab fun o e J=>?_;exact⟨o,(List.mem_singleton.mp hb)▸e⟩) (fun i h st b hb o e=>by revert st;refine fo fun o' e' J hd'=>?_;rw[List.mem_singleton.mp hb,e'] at e;exists e;unfold cT;rw[hd'])) ⟨_,Heap.get?_push_size _ rfl,rfl,rfl⟩ (fun b hb=>.inl (List.mem_singleton.mp hb)) fun i z y h h' σ' Z' hz hs J J J J=>val i z y h h' σ' Z' hz hs))
 ·exact wpAny_pyIter_ascii ha (hQ _ _ (lR hlen (Wk.of_walks (Walks.strAscii (hA.none hn) _ x t) (fun J=>rfl) (fun i h st b hb=>by revert st;refine ab fun o e J=>?_;exact⟨o,(List.mem_singleton.mp hb)▸e⟩) (fun i h st b hb o e=>by revert st;refine fo fun o' e' J hd'=>?_;rw[List.mem_singleton.mp hb,e'] at e;exists e;unfold cT;rw[hd'])) ⟨_,Heap.get?_push_size _ rfl,rfl,rfl⟩ (fun b hb=>.inl (List.mem_singleton.mp hb)) fun i z y h h' σ' Z' hz hs J J J J=>val i z y h h' σ' Z' hz hs))
variable{a b:Int}
theorem ez(hn:hd.h=true)(hlo: -(2 ^ 62)≤a∧a < 2 ^ 62∧ -(2 ^ 62)≤b∧b < 2 ^ 62):
  It prog w K d hd (.Name y p) [.int a,.int b] (fun vs=>call (.type "range") vs) ((List.range (b - a).toNat).map fun i:Nat=>V.int (a+(i:Int))) H:=by
 intro A σ Z s vs Q E hA S hv hQ
 revert hv;refine aV fun v1 r1 q t=>?_;obtain rfl:=q;revert t;refine am fun h1 hv=>?_
 revert hv;refine aV fun v2 r2 q t=>?_;obtain rfl:=q;revert t;refine am fun h2 hv=>?_
 subst hv
 revert h1;refine af fun t1 t=>?_;obtain rfl:=t
 revert h2;refine af fun t2 t=>?_;obtain rfl:=t
 refine call_range_2 ?_;refine wpAny_pyIter_range (IsRange.new ..) (small_one hlo.1 hlo.2.1 hlo.2.2.1 hlo.2.2.2) ?_;have hsz:Builtin.Range.rangeSize a b 1=((b - a).toNat:Int):=by rw[rangeSize_one];split <;> omega
 have W:=Walks.range (prog:=prog) (w:=w) (hA.none hn) (s.heap.push {cls:=.type "range",data:=.fields #[.int a t1,.int b t2,.int 1 s.toks]}).objs.size a 1 (b - a).toNat;refine hQ _ _ ⟨_,_,_,_,_,rfl,?_,fun b' o e=>Heap.get?_push_of_some _ (Heap.get?_push_of_some _ e),(Wk.of_walks W (fun J=>rfl) (fun i h st b' hb=>?_) (fun i h st b' hb o e=>by rw[List.mem_singleton.mp hb,(show h.get? _=_ from st)] at e;exists e;rfl)).cast (by walk_at "s"),?_,fun b' hb=>?_,fun b' hb=>.inl hb,fun i x y h h' σ' Z' hx hP hf hs J J=>?_⟩
 ·exact .of ⟨fun b' o e J J J=>Heap.get?_push_of_some _ (Heap.get?_push_of_some _ e),fun b' o e=>⟨o,Heap.get?_push_of_some _ (Heap.get?_push_of_some _ e),fun h=>h⟩,⟨[],by walk_at "s",fun J h=>nomatch h⟩,rfl,rfl⟩
 ·exact⟨_,(List.mem_singleton.mp hb)▸st⟩
 ·have e1:(a+((0:Nat):Int) * 1)=a:=by walk_at "s"
  have e2:(((b - a).toNat:Int) - ((0:Nat):Int))=Builtin.Range.rangeSize a b 1:=by rw[hsz];simp
  show IsRangeIter _ _ (a+((0:Nat):Int) * 1) (((b - a).toNat:Int) - ((0:Nat):Int)) 1;rw[e1,e2];exact Heap.get?_push_size _ rfl
 ·rw[List.mem_singleton.mp hb,Heap.size_push];exact⟨Heap.get?_none_of_le (Nat.le_succ _),Nat.le_succ _⟩
 ·revert hP;refine af fun t t=>?_;obtain rfl:=t
  rw[List.getElem?_map] at hx;refine ab (fun j hj t=>?_) (Option.map_eq_some_iff.mp hx);obtain rfl:=t
  have:j=i:=by
   have:=List.getElem?_eq_some_iff.mp hj;obtain⟨h1,h2⟩:=this
   simpa using h2.symm
  subst this;exact⟨t,by walk_at "s"⟩
variable{x:V}{vs:List Value}
theorem ak.inv1(q:ak P h σ Z [x] vs):∃ a,vs=[a]∧VR P h σ Z x a:=by
 revert q;refine aV fun v r q t=>?_;obtain rfl:=q;revert t;refine am fun hx hl=>?_;subst hl;exact⟨v,rfl,hx⟩
variable{y:V}
theorem ak.inv2(q:ak P h σ Z [x,y] vs):∃ a b,vs=[a,b]∧VR P h σ Z x a∧VR P h σ Z y b:=by
 revert q;refine aV fun v r q t=>?_;obtain rfl:=q;revert t;refine am fun hx hl=>?_;obtain⟨b,rfl,hy⟩:=hl.inv1;exact⟨v,b,rfl,hx,hy⟩
variable{t:Tok}
theorem VR.int:VR P h σ Z (.int i) (.int i t):=by exact⟨t,rfl⟩
variable{x:Str}
theorem VR.str:VR P h σ Z (.str x) (.str x t):=by exact⟨t,rfl⟩
theorem VR.bool{b:Bool}:VR P h σ Z (.bool b) (.bool b):=by rfl
theorem VR.none':VR P h σ Z .none .none:=by rfl
variable{kx:X→Hp→Prop}
variable{x:V}{f:List Value→Sem Value}
theorem bu(h:∀ (A:Around) (σ Z:List Addr) (s:Shared) (a:Value) (Q:Value→Shared→Prop) (E:Value→Shared→Prop),cF A d hd→St K w.params A σ Z H s→VR w.params s.heap σ Z x a→zM w K A Z σ s k Q→tu w K A Z σ s kx E→wpAny (model prog w) A (f [a]) Q E s):Pr prog w K d hd [x] f H k kx:=by
 intro A σ Z s vs Q E hA S hv hQ hE;obtain⟨a,rfl,q⟩:=hv.inv1;exact h A σ Z s a Q E hA S q hQ hE
theorem az(h:∀ (A:Around) (σ Z:List Addr) (s:Shared) (a b:Value) (Q:Value→Shared→Prop) (E:Value→Shared→Prop),cF A d hd→St K w.params A σ Z H s→VR w.params s.heap σ Z x a→VR w.params s.heap σ Z y b→zM w K A Z σ s k Q→tu w K A Z σ s kx E→wpAny (model prog w) A (f [a,b]) Q E s):Pr prog w K d hd [x,y] f H k kx:=by
 intro A σ Z s vs Q E hA S hv hQ hE;obtain⟨a,b,rfl,q,q'⟩:=hv.inv2;exact h A σ Z s a b Q E hA S q q' hQ hE
theorem dQ(h:∀ (A:Around) (σ Z:List Addr) (s:Shared) (t u:Tok) (Q:Value→Shared→Prop) (E:Value→Shared→Prop),St K w.params A σ Z H s→
  (∀ v s' x,Go Z σ [] s σ s'→St K w.params A σ Z H s'→VR w.params s'.heap σ Z x v→k x H→Q v s')→wpAny (model prog w) A (f [.int a t,.int b u]) Q E s):Pr prog w K d hd [.int a,.int b] f H k kx:=by
 intro A σ Z s vs Q E hA S hv hQ hE;obtain⟨u,v,rfl,h1,h2⟩:=hv.inv2
 revert h1;refine af fun t t=>?_;obtain rfl:=t
 revert h2;refine af fun t' t=>?_;obtain rfl:=t
 exact h A σ Z s t t' Q E S fun v s' x g S'=>hQ v s' σ x H g S'
theorem jZ(h:k (.int (a+b)) H):Pr prog w K d hd [.int a,.int b] (qE .Add) H k kx:=
 dQ fun A σ Z s t u Q E S hQ=>P.add_int (hQ _ _ _ (Go.tok ..) (S.tok _) VR.int h)
theorem rA(h:k (.int (a - b)) H):Pr prog w K d hd [.int a,.int b] (qE .Sub) H k kx:=
 dQ fun A σ Z s t u Q E S hQ=>P.sub_int (hQ _ _ _ (Go.tok ..) (S.tok _) VR.int h)
theorem oR(hm:IntMulOk a b)(h:k (.int (a * b)) H):Pr prog w K d hd [.int a,.int b] (qE .Mult) H k kx:=
 dQ fun A σ Z s t u Q E S hQ=>P.mul_int (hQ _ _ _ (Go.tok ..) (S.tok _) VR.int h) hm
theorem ry(hb:b≠0)(h:k (.int (a.fmod b)) H):Pr prog w K d hd [.int a,.int b] (qE .Mod) H k kx:=
 dQ fun A σ Z s t u Q E S hQ=>AutoIntOps.mod_1 (by simpa using hb) (hQ _ _ _ (Go.tok ..) (S.tok _) VR.int h)
theorem Bb(hb:b≠0)(hp:Builtin.divisionGoesByPylong a b=false)(h:k (.int (a.fdiv b)) H):Pr prog w K d hd [.int a,.int b] (qE .FloorDiv) H k kx:=
 dQ fun A σ Z s t u Q E S hQ=>AutoIntOps.floordiv_1 (by simpa using hb) (by simp[hp]) (hQ _ _ _ (Go.tok ..) (S.tok _) VR.int h)
theorem wK(h:k (.bool (a==b)) H):Pr prog w K d hd [.int a,.int b] (kL .Eq) H k kx:=
 dQ fun A σ Z s t u Q E S hQ=>P.eq_int (hQ _ _ _ (Go.refl ..) S VR.bool h)
theorem DH(h:k (.bool (decide (a < b))) H):Pr prog w K d hd [.int a,.int b] (kL .Lt) H k kx:=
 dQ fun A σ Z s t u Q E S hQ=>P.lt_int (hQ _ _ _ (Go.refl ..) S VR.bool h)
theorem zE(h:k (.bool (decide (a≤b))) H):Pr prog w K d hd [.int a,.int b] (kL .LtE) H k kx:=
 dQ fun A σ Z s t u Q E S hQ=>P.le_int (hQ _ _ _ (Go.refl ..) S VR.bool h)
theorem DG(h:k (.bool (decide (a > b))) H):Pr prog w K d hd [.int a,.int b] (kL .Gt) H k kx:=
 dQ fun A σ Z s t u Q E S hQ=>P.gt_int (hQ _ _ _ (Go.refl ..) S VR.bool h)
theorem DF(h:k (.bool (decide (a≥b))) H):Pr prog w K d hd [.int a,.int b] (kL .GtE) H k kx:=
 dQ fun A σ Z s t u Q E S hQ=>P.ge_int (hQ _ _ _ (Go.refl ..) S VR.bool h)
variable{a b:Str}
theorem oX(h:∀ (A:Around) (σ Z:List Addr) (s:Shared) (t u:Tok) (Q:Value→Shared→Prop) (E:Value→Shared→Prop),St K w.params A σ Z H s→
  (∀ v s' x,Go Z σ [] s σ s'→St K w.params A σ Z H s'→VR w.params s'.heap σ Z x v→k x H→Q v s')→wpAny (model prog w) A (f [.str a t,.str b u]) Q E s):Pr prog w K d hd [.str a,.str b] f H k kx:=by
 intro A σ Z s vs Q E hA S hv hQ hE;obtain⟨u,v,rfl,h1,h2⟩:=hv.inv2
 revert h1;refine af fun t t=>?_;obtain rfl:=t
 revert h2;refine af fun t' t=>?_;obtain rfl:=t
 exact h A σ Z s t t' Q E S fun v s' x g S'=>hQ v s' σ x H g S'
theorem Bc(h:k (.bool (a==b)) H):Pr prog w K d hd [.str a,.str b] (kL .Eq) H k kx:=
 oX fun A σ Z s t u Q E S hQ=>PyProof.Rows.eq_str (hQ _ _ _ (Go.refl ..) S VR.bool h)
theorem j0(hl:a.length+b.length≤sizeLine)(h:k (.str (a++b)) H):Pr prog w K d hd [.str a,.str b] (qE .Add) H k kx:=
 oX fun A σ Z s t u Q E S hQ=>PyProof.Rows.add_str (fun t' tk=>hQ _ _ _ (Go.tok ..) (S.tok _) VR.str h) hl
theorem wQ(h:k (.bool !(Builtin.Str.occurrences b a 0 b.length 1).isEmpty) H):Pr prog w K d hd [.str a,.str b] (kL .In) H k kx:=
 oX fun A σ Z s t u Q E S hQ=>PyProof.Rows.in_str (hQ _ _ _ (Go.refl ..) S VR.bool h)
theorem fh{b:Bool}(h:kb b H):Tr prog w K d hd (.bool b) H kb kx:=by
 intro A σ Z s v Q E hA S hv hQ hE;subst hv;exact wpAny_truthy_bool (hQ _ s σ H (Go.refl ..) S h)
theorem EW{a:Int}(h:kb (a != 0) H):Tr prog w K d hd (.int a) H kb kx:=by
 intro A σ Z s v Q E hA S hv hQ hE
 revert hv;refine af fun t t=>?_;obtain rfl:=t
 exact P.truthy_int (hQ _ s σ H (Go.refl ..) S h)
theorem mD(hl:¬ (a.length:Int)≥2 ^ 63)(h:kb ((a.length:Int) != 0) H):Tr prog w K d hd (.str a) H kb kx:=by
 intro A σ Z s v Q E hA S hv hQ hE
 revert hv;refine af fun t t=>?_;obtain rfl:=t
 exact P.truthy_str hl (hQ _ _ σ H (Go.tok ..) (S.tok _) h)
theorem dI{x:Str}(hl:¬ (x.length:Int)≥2 ^ 63)(h:k (.int x.length) H):Pr prog w K d hd [.str x] (fun vs=>call (.builtin "len") vs) H k kx:=by
 intro A σ Z s vs Q E hA S hv hQ hE;obtain⟨u,rfl,hu⟩:=hv.inv1
 revert hu;refine af fun t t=>?_;obtain rfl:=t
 exact PyProof.Rows.len_str hl (hQ _ _ σ (.int x.length) H (Go.tok ..) (S.tok _) VR.int h)
noncomputable def gI:List Value→Sem Value
 | [o,i]=>getItem o i
 | _=>unsupported ""
noncomputable def zL(H:Hp):V→Bool
 | .lst _ | .tup _ | .str _ | .dct _ _=>true
 | .ob r=>match H[r]? with
  | some (.l _) | some (.d _ _)=>true
  | _=>false
 | _=>false
variable{kx:X→Hp→Prop}
theorem m5{o:Value}{T id:String}{Q:Bool→Shared→Prop}(hT:s.TypeIs o T)(hl:typeLookup (.type T) "__getitem__"=pure (some (.builtin id)))(h:Q false s):
  wpAny (model prog w) A (getitemInPython o) Q E s:=by
 rw[getitemInPython_of_ne hT.not_modules];refine wpAny_bind (wpAny_specialOf hT hl ?_);exact wpAny_pure h
theorem wc(S:St K P A σ Z H s)(hu:VR P s.heap σ Z u v)(hb:zL H u=true):∃ T id,s.TypeIs v T∧typeLookup (.type T) "__getitem__"=pure (some (.builtin id)):=by
 cases u with
 | lst l=>obtain⟨a,vs,rfl,f,hl,hvs⟩:=hu;exact⟨"list",_,hl.isList.typeIs,slot_list_getitem.lookup⟩
 | tup l=>obtain⟨a,vs,rfl,f,hl,hvs⟩:=hu;exact⟨"tuple",_,hl.typeIs,slot_tuple_getitem.lookup⟩
 | str x=>revert hu;refine af fun t t=>?_;obtain rfl:=t;exact⟨"str",_,typeIs_str s x t,slot_str_getitem.lookup⟩
 | dct ks l=>
  obtain⟨a,vs,rfl,f,hd,hvs⟩:=hu;obtain⟨o,es,n,e,hc,hdd,_⟩:=hd;exact⟨"dict",_,⟨o,e,hc.1⟩,slot_dict_getitem.lookup⟩
 | ob r=>
  obtain⟨a,rfl,e⟩:=hu;dsimp only[zL] at hb;cases hr:H[r]? with
  | none=>rw[hr] at hb;exists hb
  | some ob=>
   rw[hr] at hb;have q:=S.ob e hr;cases ob with
   | l l=>obtain⟨vs,hl,_⟩:=q;exact⟨"list",_,hl.isList.typeIs,slot_list_getitem.lookup⟩
   | d ks l=>obtain⟨vs,⟨o,es,n,e,hc,_⟩,_⟩:=q;exact⟨"dict",_,⟨o,e,hc.1⟩,slot_dict_getitem.lookup⟩
   | n ks l=>exists hb
   | f r=>exists hb
 | _=>exists hb
inductive B0 (prog:Program) (w:World) (K:Frag) (d:Nat) (hd:Hd) (k:V→Hp→Prop) (kx:X→Hp→Prop) (u x:V) (H:Hp):Prop
 | mk:zL H u=true→Pr prog w K d hd [u,x] gI H k kx→B0 prog w K d hd k kx u x H
variable{value slice:PySem.Expr}
theorem Ad(hs:∀ o i,subscripted slice false o i=operate [o,i] (getItem o i)∨subscripted slice false o i=operate [i,o] (getItem o i))(h:Ev prog w K d hd env ρ (eval value env) H (BV prog w K d hd env ρ (eval slice env) (B0 prog w K d hd k kx) kx) kx):
  Ev prog w K d hd env ρ (eval (.Subscript value slice pos) env) H k kx:=by
 intro A σ Z s Q E hA S F hQ hE;refine Subscript_ (h A σ Z s _ _ hA S F (fun o s1 σ1 u H1 g1 S1 hu hk=>?_) hE);refine hk A σ1 Z s1 _ _ hA S1 (F.go S g1) (fun i s2 σ2 x H2 g2 S2 hx hk2=>?_) (hE.go g1);obtain⟨hb,hk2⟩:=hk2;have hu2:=VR.go g2 (fun J h=>nomatch h) _ hu;refine aV (fun T id hT hl=>?_) (wc S2 hu2 hb)
 have hget:=hk2 A σ2 Z s2 [o,i] _ _ hA S2 (ak.two hu2 hx) (hQ.go (g1.trans g2))
  (hE.go (g1.trans g2))
 unfold subscriptTail;refine wpAny_bind (m5 hT hl (wpAny_bind ?_))
 have fin:wpAny (model prog w) A (getItem o i) (fun r s₃=>wpAny (model prog w) A (letTemporaryGo value o r >>= fun J=>pure r) Q E s₃) E s2:=
  wpAny_mono hget (fun r s₃ h₃=>wpAny_bind (wpAny_letTemporaryGo (wpAny_pure h₃))) fun J J q=>q
 rcases hs o i with e | e
 ·rw[e];exact wpAny_operate' fin
 ·rw[e];exact wpAny_operate' fin
theorem nK(h0:0≤i)(hu:l[i.toNat]? =some u)(hl:l.length≤1000)(h:k u H):Pr prog w K d hd [.lst l,.int i] gI H k kx:=by
 refine az fun A σ Z s a b Q E hA S h1 h2 hQ hE=>?_;obtain⟨a,vs,rfl,f,hpl,hvs⟩:=h1
 revert h2;refine af fun t t=>?_;obtain rfl:=t
 refine ab (fun v e hv=>?_) (ak.get hvs hu);have hlt:=(List.getElem?_eq_some_iff.mp hu).1;exact wpAny_getItem_list hpl.isList h0 (by omega) (by rw[←Array.getElem?_toList];exact e) (hQ v s σ u H (Go.refl ..) S hv h)
theorem m6(h0:i < 0)(h1: -(l.length:Int)≤i)(hu:l[(i+l.length).toNat]? =some u)(hl:l.length≤1000)(h:k u H):Pr prog w K d hd [.lst l,.int i] gI H k kx:=by
 refine az fun A σ Z s a b Q E hA S q1 q2 hQ hE=>?_;obtain⟨a,vs,rfl,f,hpl,hvs⟩:=q1
 revert q2;refine af fun t t=>?_;obtain rfl:=t
 refine ab (fun v e hv=>?_) (ak.get hvs hu);have hsz:(vs.size:Int)=l.length:=by rw[hvs.length];simp
 exact wpAny_getItem_list_neg hpl.isList h0 (by omega) (by omega) (by rw[hsz,←Array.getElem?_toList];exact e) (hQ v s σ u H (Go.refl ..) S hv h)
theorem uE(h0:0≤i)(hu:l[i.toNat]? =some u)(hl:l.length≤1000)(h:k u H):Pr prog w K d hd [.tup l,.int i] gI H k kx:=by
 refine az fun A σ Z s a b Q E hA S h1 h2 hQ hE=>?_;obtain⟨a,vs,rfl,f,hpl,hvs⟩:=h1
 revert h2;refine af fun t t=>?_;obtain rfl:=t
 refine ab (fun v e hv=>?_) (ak.get hvs hu);have hlt:=(List.getElem?_eq_some_iff.mp hu).1;have hsz:vs.size=l.length:=by rw[hvs.length];simp
 have hj:seqIndex? i vs.size=some i.toNat:=by
  rw[hsz];unfold seqIndex?;have h1:¬ i < 0:=by omega
  have h2:i < (l.length:Int):=by omega
  simp[h1,h0,h2]
 exact PyProof.Rows.getItem_tuple hpl (by omega) (by omega) hj (by rw[←Array.getElem?_toList];exact e) (hQ v s σ u H (Go.refl ..) S hv h)
variable{m:List V}
theorem bx(hl:l.length+m.length≤1000)(h:k (.lst (l++m)) H):Pr prog w K d hd [.lst l,.lst m] (qE .Add) H k kx:=by
 refine az fun A σ Z s a b Q E hA S h1 h2 hQ hE=>?_;obtain⟨a,vs,rfl,f,⟨n,hpl⟩,hvs⟩:=h1;obtain⟨b,ws,rfl,f2,⟨n2,hpl2⟩,hws⟩:=h2;have e1:vs.size=l.length:=by rw[hvs.length];simp
 have e2:ws.size=m.length:=by rw[hws.length];simp
 refine P.add_list hpl hpl2 (hQ _ _ σ (.lst (l++m)) H (Go.push Z σ s _ s.toks) (S.push _ s.toks) ?_ h) (by rw[e1,e2];exact Nat.le_trans hl (by decide));refine⟨_,vs++ws,rfl,S.fresh,⟨0,Heap.get?_push_size _ rfl⟩,?_⟩;rw[Array.toList_append];have gg:=Go.push Z σ s {cls:=.type "list",data:=.seq (vs++ws)} s.toks
 have app:∀ {l1 l2:List V} {v1 v2:List Value} {hh:Heap},ak w.params hh σ Z l1 v1→ak w.params hh σ Z l2 v2→ak w.params hh σ Z (l1++l2) (v1++v2):=by
  intro l1
  induction l1 with
  | nil=>intro l2 v1 v2 hh q1 q2;subst q1;exact q2
  | cons x r ih=>
   intro l2 v1 v2 hh q1 q2
   revert q1;refine aV fun v r' q t=>?_;obtain rfl:=q;revert t;refine am fun hx hr=>?_
   show ak w.params hh σ Z (x::(r++l2)) (v::(r'++v2));exact⟨v,r'++v2,rfl,hx,ih hr q2⟩
 exact app (ak.go gg (fun J h=>nomatch h) _ hvs) (ak.go gg (fun J h=>nomatch h) _ hws)
noncomputable def gH:Nat→List V→List V
 | _,[]=>[]
 | n,x::r=>.tup [.int n,x]::gH (n+1) r
variable{r:List V}
theorem sh:gH n (x::r)=.tup [.int n,x]::gH (n+1) r:=rfl
theorem dg:∀ (n:Nat) (l:List V),(gH n l).length=l.length
 | _,[]=>rfl
 | n,x::r=>by rw[sh];rw[List.length_cons,List.length_cons,dg]
theorem hF:∀ (n:Nat) (l:List V) (i:Nat),(gH n l)[i]? =l[i]?.map fun x=>.tup [.int ((n+i:Nat):Int),x]
 | _,[],i=>by simp[gH]
 | n,x::r,0=>by simp[gH]
 | n,x::r,i+1=>by
  rw[sh];rw[List.getElem?_cons_succ,List.getElem?_cons_succ,hF (n+1) r i];have:n+1+i=n+(i+1):=by omega
  rw[this]
theorem mE{Z':List Addr}{T:Addr}{vals:Array Value}(hT:h.objs.size≤T)(hI:h'.IsTuple T vals)(he:∀ a,a∈σ'∨a∈Z'→∃ o,h.get? a=some o)(h8:378≤h.objs.size)(hv:ak P h' σ' Z' us vals.toList):VR P h' σ' Z' (.tup us) (.ref T):=by
 refine⟨T,vals,rfl,⟨Nat.le_trans h8 hT,fun q=>?_,fun q=>?_⟩,hI,hv⟩
 ·refine af (fun o e=>?_) (he T (.inl q));exact absurd (Heap.lt_size e) (Nat.not_lt.mpr hT)
 ·refine af (fun o e=>?_) (he T (.inr q));exact absurd (Heap.lt_size e) (Nat.not_lt.mpr hT)
theorem yb(hn:hd.h=true):It prog w K d hd (.Tuple elts kk p) [.lst l] (fun vs=>call (.type "enumerate") vs) (gH 0 l) H:=by
 intro A σ Z s vs Q E hA S hv hQ;obtain⟨u,rfl,hu⟩:=hv.inv1;obtain⟨a,vs,rfl,f,hpl,hvs⟩:=hu;have hl:=hpl.isList;refine ab (fun o ho J=>?_) (id hl);have halt:=Heap.lt_size ho;refine call_enumerate_list hl fun h' he hit hsz hk=>wpAny_pyIter_enum he (hQ _ _ ?_)
 refine⟨_,[s.heap.objs.size+1,s.heap.objs.size],[s.heap.objs.size+1,s.heap.objs.size,a],_,_,rfl,.of ⟨fun b o e J J J=>hk b o e,fun b o e=>⟨o,hk b o e,fun h=>h⟩,⟨[],by walk_at "s",fun J h=>nomatch h⟩,rfl,rfl⟩,hk,
  (Wk.of_T (WalksT.enumerate (hA.none hn) (s.heap.objs.size+1) s.heap.objs.size a (Nat.succ_ne_self _) (Nat.ne_of_lt (Nat.lt_succ_of_lt halt)) (Nat.ne_of_lt halt) vs) (fun i h st b hb=>?_) (fun i h st b hb=>?_)).cast ?_,
  ⟨⟨_,he⟩,hit,hl.at fun o e=>hk a o e⟩,fun b hb=>?_,fun b hb=>?_,fun i x y h h' σ' Z' hx hP hf hs he8 h8=>?_⟩
 ·revert st;refine am fun q t=>?_;revert q;refine af fun old e1=>?_;revert t;refine am fun q t=>?_;revert q;refine ab fun o2 e2 J=>?_;revert t;refine ab fun o3 e3 J=>?_
  rcases List.mem_cons.mp hb with rfl | hb
  ·exact⟨_,e1⟩
  ·rcases List.mem_cons.mp hb with rfl | hb
   ·exact⟨_,e2⟩
   ·exact⟨_,(List.mem_singleton.mp hb)▸e3⟩
 ·intro o' eo
  revert st;refine am fun q t=>?_;revert q;refine af fun old e1=>?_;revert t;refine am fun q J=>?_;revert q;refine fo fun o2 e2 J d2=>?_
  rcases List.mem_cons.mp hb with rfl | hb
  ·rw[(show h.get? _=_ from e1)] at eo;exists eo;rfl
  ·rw[List.mem_singleton.mp hb,e2] at eo;exists eo;unfold cT;rw[d2]
 ·rw[dg,hvs.length];simp
 ·rcases List.mem_cons.mp hb with rfl | hb
  ·exact⟨Heap.get?_none_of_le (Nat.le_succ _),Nat.le_succ _⟩
  ·rw[List.mem_singleton.mp hb];exact⟨Heap.get?_none_of_le (Nat.le_refl _),Nat.le_refl _⟩
 ·rcases List.mem_cons.mp hb with rfl | hb
  ·exact .inl List.mem_cons_self
  ·rcases List.mem_cons.mp hb with rfl | hb
   ·exact .inl (List.mem_cons_of_mem _ List.mem_cons_self)
   ·exact .inr ((List.mem_singleton.mp hb)▸⟨f,o,ho⟩)
 ·revert hP;refine aV fun T vals q t=>?_;obtain rfl:=q;revert t;refine am fun q t=>?_;revert q;refine aV fun t z hz t=>?_;obtain rfl:=t;revert t;refine am fun hT hI=>?_
  rw[hF] at hx;refine ab (fun u hu t=>?_) (Option.map_eq_some_iff.mp hx);obtain rfl:=t;refine ab (fun v e1 hv=>?_) (ak.get (ak.tr hf hs l hvs) hu);have e2:vs[i]? =some v:=by rw[←Array.getElem?_toList];exact e1
  rw[hz] at e2;exists e2;refine mE hT hI he8 h8 (ak.two ?_ hv);exact⟨t,by walk_at "s"⟩
noncomputable def m9:List V→List V→List V
 | x::r,y::q=>.tup [x,y]::m9 r q
 | _,_=>[]
theorem rV{q:List V}:m9 (x::r) (y::q)=.tup [x,y]::m9 r q:=rfl
theorem kG:∀ (l m:List V),(m9 l m).length=min l.length m.length
 | [],_=>by simp[m9]
 | _::_,[]=>by simp[m9]
 | x::r,y::q=>by rw[rV];rw[List.length_cons,kG r q];simp only[List.length_cons];omega
theorem mP:∀ (l m:List V) (i:Nat) (z:V),(m9 l m)[i]? =some z→∃ x y,l[i]? =some x∧m[i]? =some y∧z=.tup [x,y]
 | [],_,_=>fun J h=>by simp[m9] at h
 | _::_,[],_=>fun J h=>by simp[m9] at h
 | x::r,y::q,0=>fun z h=>by rw[rV] at h;simp at h;exact⟨x,y,rfl,rfl,h.symm⟩
 | x::r,y::q,i+1=>fun z h=>by
  rw[rV] at h;refine ee (fun a b h1 h2 h3=>?_) (mP r q i z (by simpa using h));exact⟨a,b,by simpa using h1,by simpa using h2,h3⟩
theorem Wk.widen{I:Addr}{wr':List Addr}{P:Nat→Value→Heap→Heap→Prop}{Ws:Nat→Heap→Prop}(W:Wk prog w A tg I wr fp n P Ws)(h1:∀ b∈wr,b∈wr')(h2:∀ b∈wr',b∈fp)(h3:∀ i h,Ws i h→∀ b∈wr',∀ o,h.get? b=some o→cT o=false):Wk prog w A tg I wr' fp n P Ws where
 sub:=h2
 nd:=h3
 dom:=W.dom
 frame:=W.frame
 item:=fun i s Q E hi st hQ=>W.item i s Q E hi st fun v h1' tk hgo=>hQ v h1' tk fun Q2 E2 hq=>hgo Q2 E2 fun h2' hP hst hk=>hq h2' hP hst fun b o hb e=>hk b o (fun q=>hb (h1 b q)) e
 done:=fun s Q E st hQ=>W.done s Q E st fun h' tk hk=>hQ h' tk fun b o hb e=>hk b o (fun q=>hb (h1 b q)) e
 self:=W.self
theorem qB{a b:Nat}(ha:a < n)(hb:b < n):ZipApart (n+4) (n+2) (n+3) n (n+1) a b:=by
 constructor <;> first | exact Nat.ne_of_lt (by omega) | exact Nat.ne_of_gt (by omega)
theorem AJ(hn:hd.h=true):It prog w K d hd (.Tuple elts kk p) [.lst l,.lst m] (fun vs=>call (.type "zip") vs) (m9 l m) H:=by
 intro A σ Z s vs Q E hA S hv hQ;obtain⟨u1,u2,rfl,q1,q2⟩:=hv.inv2;obtain⟨a,vs,rfl,f,hpl,hvs⟩:=q1;obtain⟨b,ws,rfl,f2,hpl2,hws⟩:=q2;have hl:=hpl.isList;have hm:=hpl2.isList;refine ab (fun o ho J=>?_) (id hl);refine ab (fun o2 ho2 J=>?_) (id hm);have halt:(a:Nat) < s.heap.objs.size:=Heap.lt_size ho;have hblt:(b:Nat) < s.heap.objs.size:=Heap.lt_size ho2;refine call_zip_2 hl hm fun h' hz hTI hTO h1 h2 hsz hk=>wpAny_pyIter_zip hz (hQ _ _ ?_);have fresh:∀ c:Nat,s.heap.objs.size≤c→s.heap.get? c=none∧s.heap.objs.size≤c:=fun c hc=>⟨Heap.get?_none_of_le hc,hc⟩
 refine⟨_,[s.heap.objs.size+4,s.heap.objs.size+2,s.heap.objs.size+3,s.heap.objs.size,s.heap.objs.size+1],[s.heap.objs.size+4,s.heap.objs.size+2,s.heap.objs.size+3,s.heap.objs.size,s.heap.objs.size+1,a,b],_,_,rfl,.of ⟨fun b o e J J J=>hk b o e,fun b o e=>⟨o,hk b o e,fun h=>h⟩,⟨[],by walk_at "s",fun J h=>nomatch h⟩,rfl,rfl⟩,hk,
  ((Wk.of_T (WalksT.zip2 (hA.none hn) _ _ _ _ _ a b (qB halt hblt) vs ws) (fun i h st c hc=>?_) (fun i h st c hc=>?_)).widen (fun c hc=>?_) (fun c hc=>?_) fun i h st c hc=>?_).cast ?_,
  ⟨hz,hTI,⟨_,_,hTO⟩,h1,h2,hl.at fun o e=>hk a o e,hm.at fun o e=>hk b o e⟩,fun c hc=>?_,fun c hc=>?_,fun i x y h h' σ' Z' hx hP hf hs he8 h8=>?_⟩
 ·revert st;refine fY fun e1 e2 q t=>?_;revert q;refine A9 fun J J e3=>?_;revert t;refine am fun q t=>?_;revert q;refine ab fun J e4 J=>?_;revert t;refine am fun q t=>?_;revert q;refine ab fun J e5 J=>?_;revert t;refine am fun q t=>?_;revert q;refine ab fun J e6 J=>?_;revert t;refine ab fun J e7 J=>?_
  simp only[List.mem_cons,List.not_mem_nil,or_false] at hc;rcases hc with rfl | rfl | rfl | rfl | rfl | rfl | rfl
  ·exact⟨_,e1⟩
  ·exact⟨_,e2⟩
  ·exact⟨_,e3⟩
  ·exact⟨_,e4⟩
  ·exact⟨_,e5⟩
  ·exact⟨_,e6⟩
  ·exact⟨_,e7⟩
 ·intro o' eo
  revert st;refine fY fun e1 e2 q t=>?_;revert q;refine A9 fun J J e3=>?_;revert t;refine am fun q t=>?_;revert q;refine fo fun J e4 J d4=>?_;revert t;refine am fun q J=>?_;revert q;refine fo fun J e5 J d5=>?_
  simp only[List.mem_cons,List.not_mem_nil,or_false] at hc;rcases hc with rfl | rfl | rfl | rfl
  ·rw[(show h.get? _=_ from e1)] at eo;exists eo;rfl
  ·rw[(show h.get? _=_ from e3)] at eo;exists eo;rfl
  ·rw[e4] at eo;exists eo;unfold cT;rw[d4]
  ·rw[e5] at eo;exists eo;unfold cT;rw[d5]
 ·simp only[List.mem_cons,List.not_mem_nil,or_false] at hc ⊢;rcases hc with rfl | rfl | rfl | rfl <;> simp
 ·simp only[List.mem_cons,List.not_mem_nil,or_false] at hc ⊢;rcases hc with rfl | rfl | rfl | rfl | rfl <;> simp
 ·intro o' eo
  revert st;refine fY fun e1 e2 q t=>?_;revert q;refine A9 fun J J e3=>?_;revert t;refine am fun q t=>?_;revert q;refine fo fun J e4 J d4=>?_;revert t;refine am fun q J=>?_;revert q;refine fo fun J e5 J d5=>?_
  simp only[List.mem_cons,List.not_mem_nil,or_false] at hc;rcases hc with rfl | rfl | rfl | rfl | rfl
  ·rw[(show h.get? _=_ from e1)] at eo;exists eo;rfl
  ·rw[(show h.get? _=_ from e2)] at eo;exists eo;rfl
  ·rw[(show h.get? _=_ from e3)] at eo;exists eo;rfl
  ·rw[e4] at eo;exists eo;unfold cT;rw[d4]
  ·rw[e5] at eo;exists eo;unfold cT;rw[d5]
 ·rw[kG,hvs.length,hws.length];simp
 ·simp only[List.mem_cons,List.not_mem_nil,or_false] at hc;rcases hc with rfl | rfl | rfl | rfl | rfl
  ·exact fresh _ (Nat.le_add_right _ _)
  ·exact fresh _ (Nat.le_add_right _ _)
  ·exact fresh _ (Nat.le_add_right _ _)
  ·exact fresh _ (Nat.le_refl _)
  ·exact fresh _ (Nat.le_add_right _ _)
 ·simp only[List.mem_cons,List.not_mem_nil,or_false] at hc;rcases hc with rfl | rfl | rfl | rfl | rfl | rfl | rfl
  ·exact .inl (by walk_at "s")
  ·exact .inl (by walk_at "s")
  ·exact .inl (by walk_at "s")
  ·exact .inl (by walk_at "s")
  ·exact .inl (by walk_at "s")
  ·exact .inr ⟨f,o,ho⟩
  ·exact .inr ⟨f2,o2,ho2⟩
 ·revert hP;refine aV fun T vals q t=>?_;obtain rfl:=q;revert t;refine am fun q t=>?_;revert q;refine ee fun z1 z2 hz1 hz2 t=>?_;obtain rfl:=t;revert t;refine am fun hT hI=>?_
  refine ee (fun u1 u2 hu1 hu2 t=>?_) (mP l m i x hx);obtain rfl:=t;refine ab (fun v1 e1 hv1=>?_) (ak.get (ak.tr hf hs l hvs) hu1);refine ab (fun v2 e2 hv2=>?_) (ak.get (ak.tr hf hs m hws) hu2);have e3:vs[i]? =some v1:=by rw[←Array.getElem?_toList];exact e1
  have e4:ws[i]? =some v2:=by rw[←Array.getElem?_toList];exact e2
  rw[hz1] at e3;exists e3;rw[hz2] at e4;exists e4;exact mE hT hI he8 h8 (ak.two hv1 hv2)
variable{k:Fl→ai→Hp→Prop}{kx:X→ai→Hp→Prop}
noncomputable def rR(sc scope:Scope)(t:Str):Bool:=
 sc.names.lookup t==some .local&& !(scope.names.any fun(n,k)=>n==t&&(k== .local || k== .cell))
variable{t:Str}
theorem rN{Xp:List Addr}(hsc:Sc env sc Xp)(hk:env.scope.kind=.function){line:Nat}(hu:rR sc scope t=true)(hl:(p.line==pos.line)=true):
  swapsWith (.ListComp elt gs scope pos) (some (.Name t p)) line env=pure true:=by
 unfold rR at hu;rw[Bool.and_eq_true] at hu;have h1:env.kindOf t=some .local:=hsc.loc t (eq_of_beq hu.1);have h2:(env.blockKind== .function)=true:=by unfold Env.blockKind;rw[hk];rfl
 show(pure (env.blockKind== .function&&env.kindOf t==some .local&&p.line==pos.line&& !(scope.names.any fun(n,k)=>n==t&&(k== .local || k== .cell))):Sem Bool)=pure true;rw[h2,h1,hl,hu.2];rfl
variable{apos:Pos}
theorem di(hsc:Sc env sc (own env))(hgens:∀ g'∈g::gs,g'.is_async=0∧∀ env x,foldedSetIterable g'.iter env x=pure x)(hok:oj sc scope=true)(hsel:ag scope ρ ρc)(hu:rR sc scope t=true)(hl:(p.line==pos.line)=true)(hok2:aG sc t=true){ρ':V→ai}(hp:∀ u,ba t u ρ (ρ' u))(h:Ie prog w K d hd env ρ g.target (eval g.iter env) H (fun l H1=>∀ cenv Xw,Sc cenv scope Xw→eR prog w K d hd cenv Xw g (qD prog w K d hd cenv Xw elt gs) l (fun acc J H2=>k .next (ρ' (.lst acc)) H2) [] ρc H1) (nc ρ kx)):
  Ex prog w K d hd env ρ (exec (.Assign [.Name t p] (.ListComp elt (g::gs) scope pos) apos) env) H k kx:=by
 intro A σ Z s Q E hA S F hQ hE;rw[exec_Assign_Name_used _ _ _ _ (rN hsc F.kind hu hl)];have hg0:g.is_async=0:=(hgens _ List.mem_cons_self).1;obtain⟨target,iter,ifs,asy⟩:=g;have hasy:asy=0:=hg0;subst hasy;refine wpAny_bind (wpAny_standAt (wpAny_bind ?_));show wpAny _ A (do let _←comprehension (.ListComp elt (⟨target,iter,ifs,0⟩::gs) scope pos) scope env _ (newList []) false (eval iter env) (some (assign (.Name t p) env))) _ _ s;refine wpAny_bind (wpAny_mono (ng (Q:=fun J s'=>Q .next s') (k:=fun u H'=>∃ acc,u=.lst acc∧k .next (ρ' (.lst acc)) H') (kx:=fun x H'=>kx x ρ H') (g:=⟨target,iter,ifs,0⟩) hsc hgens hok hsel hA S F (hE.to S F) ?_ ?_) (fun J s' hq=>wpAny_pure (wpAny_pure hq)) fun J J e=>e)
 ·intro A σ Z s Q E hA S F hQ hE;refine h A σ Z s Q E hA S F (fun v σ0 s0 H0 l s₂ g0 S0 hk ik=>hQ v σ0 s0 H0 l s₂ g0 S0 (fun cenv Xw hs=>?_) ik) hE
  have e:(fun acc (_:ai) H2=>k .next (ρ' (.lst acc)) H2)=(fun acc (_:ai) H2=>∃ acc',V.lst acc=.lst acc'∧k .next (ρ' (.lst acc')) H2):=by
   funext acc _ H2
   exact propext ⟨fun q=>⟨acc,rfl,q⟩,fun⟨acc',e,q⟩=>by exists e;exact q⟩
  rw[←e];exact hk cenv Xw hs
 ·intro D C Y σ0 H0 s0 σ' s' acc' H' x hk
  revert hk;refine ab fun acc2 e2 hk=>?_
  exists e2;have gz:=x.gz;have hCY:C∈D::Y:=List.mem_cons_of_mem _ x.cy;have frZ:gC A Z s'.heap:=x.S0.fr.go gz;have S':St K w.params A σ' (Y++Z) H' s':=x.S'.fewer (fun a h=>List.mem_cons_of_mem _ h) (frZ.tr rfl (fun a h=>List.mem_append_right _ h) fun J o J e=>⟨o,e,fun h=>h⟩);have hDm:D∈D::Y:=List.mem_cons_self;obtain⟨ys,hys,hyv⟩:=x.ac;have hD':D∉σ':=fun q=>x.S'.apart D q (List.mem_append_left _ hDm);have hDYZ:D∉Y++Z:=fun q=>(List.mem_append.mp q).elim x.dy (x.fr D hDm).2.2
  have hv:VR w.params s'.heap σ' (Y++Z) (.lst acc') (.ref D):=by
   exact⟨D,ys,rfl,⟨(x.fr D hDm).2.1,hD',hDYZ⟩,hys,ak.mono (fun a h=>List.mem_cons_of_mem _ h) _ hyv⟩
  have hoZ:=x.F0.ownZ;have mY:∀ b,Mc env b→b∉Y:=x.F0.notIn fun a h=>(x.fr a (List.mem_cons_of_mem _ h)).1
  have F':FR w.params σ' (Y++Z) env ρ s'.heap:=x.F0.up (fun a o f e=>⟨gz.get (fun J h=>nomatch h) e f,f.lo,gz.mem e f.ns,fun q=>(List.mem_append.mp q).elim (fun q=>by rw[(x.fr a (List.mem_cons_of_mem _ q)).1] at e;exists e) f.nz⟩) gz.sig
   (fun a o ha J e=>gz.upZ x.S0 ha (fun h=>nomatch h) o e) fun a ha J=>List.mem_append_right _ ha
  show wpAny _ A (assign (.Name t p) env (.ref D)) _ E s';refine wpAny_assign_Name (eN S' F' hv (hp _) (aG.plain hok2) (hsc.wr t hok2) hsc.ow fun s'' g'' S'' F''=>?_);obtain⟨m,hm⟩:=x.ns;have hCo:C∉own env:=fun q=>(x.fr C hCY).2.2 (hoZ C q);have hC8:=(x.fr C hCY).2.1;have hCσ:C∉σ':=fun q=>S'.apart C q (List.mem_append_left _ x.cy);have hm':s''.heap.Ns C m:=sR hm (g''.upZ S' (List.mem_append_left _ x.cy) hCo);refine⟨m,hm',fun h' hs'=>?_⟩;have hk':∀ b o,b∉Y→s''.heap.get? b=some o→h'.get? b=some o:=fun b o hb e=>(hs'.2 b fun q=>hb (q▸x.cy)).trans e;have hYZ:∀ a∈Y,a∉Z:=fun a ha=>(x.fr a (List.mem_cons_of_mem _ ha)).2.2;have gt:Go Z σ0 (own env) s0 σ' s'':=((gz.more (Z':=Y++Z) fun a h=>List.mem_append_right _ h).ev g'').less fun a ha=>(x.fr a (List.mem_cons_of_mem _ ha)).1;have gf:Go Z σ0 (own env) s0 σ' {s'' with heap:=h'}:=gt.after (W:=[C]) (fun b o hb e=>(hs'.2 b fun q=>hb (q▸List.mem_singleton.mpr rfl)).trans e) (fun b hb=>(List.mem_singleton.mp hb)▸(x.fr C hCY).1) rfl rfl
  refine hQ .next _ σ' .next (ρ' (.lst acc')) H' (x.g0.ev gf) (S''.tr (s':={s'' with heap:=h'}) (x.S0.fr.go gt) hk' hYZ rfl fun a ha=>(x.fr a (List.mem_cons_of_mem _ ha)).2.1)
   (F''.tr (fun a o f e=>⟨hk' a o (fun q=>f.nz (List.mem_append_left _ q)) e,f.mono fun J h=>List.mem_append_right _ h⟩) (fun J J h=>h) (fun a o J hm e=>hk' a o (mY a hm) e) fun a ha hm=>(List.mem_append.mp ha).elim (fun q=>absurd q (mY a hm)) fun q=>q) rfl hk
variable{k:V→Hp→Prop}{kx:X→Hp→Prop}
theorem Go.pushOb(Z σ:List Addr)(s:Shared)(o:Obj)(t:Nat):Go Z σ [] s (σ++[s.heap.objs.size]) {s with heap:=s.heap.push o,toks:=t}:=
 .of ⟨fun J J e J J J=>Heap.get?_push_of_some _ e,fun J o' e=>⟨o',Heap.get?_push_of_some _ e,fun h=>h⟩,⟨[_],rfl,fun a h=>by rw[List.mem_singleton.mp h];exact Heap.get?_none_of_le (Nat.le_refl _)⟩,rfl,rfl⟩
theorem St.newOb(S:St K P A σ Z H s)(o:Obj)(t:Nat){ob:Ob}(hob:OR P (s.heap.push o) (σ++[s.heap.objs.size]) Z ob s.heap.objs.size):
  St K P A (σ++[s.heap.objs.size]) Z (H++[ob]) {s with heap:=s.heap.push o,toks:=t}:=by
 have f:=S.fresh;have S0:St K P A σ Z H {s with heap:=s.heap.push o,toks:=t}:=S.push o t;have g:=Go.pushOb Z σ s o t;have hf:=g.keepFz (Z:=Z) fun J h=>nomatch h;refine⟨S0.kin,S0.kb,S0.bs,fun a h=>?_,S0.kz,S0.zd,?_,?_,fun a h q=>?_,fun r l e=>?_,S0.gens,S0.fr,S.tb.tr hf fun o e=>Heap.get?_push_of_some _ e,S.hx.tr rfl hf⟩
 ·rcases List.mem_append.mp h with h | h
  ·exact S.ks a h
  ·rw[List.mem_singleton.mp h];exact f.lo
 ·rw[List.length_append,List.length_append,S.len];rfl
 ·refine List.nodup_append.mpr ⟨S.nd,List.nodup_cons.mpr ⟨List.not_mem_nil,List.nodup_nil⟩,fun a h b hb e=>?_⟩;rw[List.mem_singleton.mp hb] at e;exact f.ns (e▸h)
 ·rcases List.mem_append.mp h with h | h
  ·exact S.apart a h q
  ·exact f.nz ((List.mem_singleton.mp h)▸q)
 ·rcases Nat.lt_or_ge r H.length with hr | hr
  ·rw[List.getElem?_append_left hr] at e;refine ab (fun a e1 q=>?_) (S.hr r l e);refine⟨a,?_,q.tr hf g.sig fun o e=>Heap.get?_push_of_some _ e⟩;rw[List.getElem?_append_left (S.len.symm▸hr)];exact e1
  ·have hr2:r=H.length:=by
    have:=(List.getElem?_eq_some_iff.mp e).1;rw[List.length_append,List.length_singleton] at this;omega
   subst hr2;have:l=ob:=by simpa using e.symm
   subst this;refine⟨s.heap.objs.size,?_,hob⟩;rw[←S.len];simp
theorem St.newAt(S:St K P A σ Z H s):(σ++[s.heap.objs.size])[H.length]? =some s.heap.objs.size:=by rw[←S.len];simp
variable{a:Addr}
theorem Go.setOb(S:St K P A σ Z H s)(ham:a∈σ)(t:Nat)(hs:Heap.SameBut a s.heap h')(hd:∀ o,s.heap.get? a=some o→∃ o',h'.get? a=some o'∧(cT o=true→cT o'=true)):
  Go Z σ [] s σ {s with heap:=h',toks:=t}:=
 .of ⟨fun b o e J hb J=>(hs.2 b fun q=>hb (q▸ham)).trans e,fun b o e=>by
  by_cases hb:b=a
  ·subst hb;exact hd o e
  ·exact⟨o,(hs.2 b hb).trans e,fun h=>h⟩,⟨[],by walk_at "s",fun J h=>nomatch h⟩,rfl,rfl⟩
variable{r:Nat}
theorem St.setOb(S:St K P A σ Z H s){ob:Ob}(ea:σ[r]? =some a)(t:Nat)(hs:Heap.SameBut a s.heap h')(hd:∀ o,s.heap.get? a=some o→∃ o',h'.get? a=some o'∧(cT o=true→cT o'=true))(hob:OR P h' σ Z ob a):St K P A σ Z (H.set r ob) {s with heap:=h',toks:=t}:=by
 have ham:a∈σ:=List.mem_of_getElem? ea;have g:=Go.setOb (Z:=Z) S ham t hs hd;have low:∀ b o,b < 378→s.heap.get? b=some o→h'.get? b=some o:=fun b o hb e=>(hs.2 b fun q=>absurd (S.ks a ham) (Nat.not_le.mpr (q▸hb))).trans e;have hf:=g.keepFz (Z:=Z) fun J h=>nomatch h;refine⟨fun b o e=>low b o (S.kb b o e).1 (S.kin b o e),S.kb,Bs.go S g (fun J h=>nomatch h),S.ks,S.kz,fun b hb=>?_,by rw[List.length_set];exact S.len,S.nd,S.apart,fun r' l' e=>?_,S.gens,S.fr.go g,S.tb.tr hf fun o e=>low _ o (by decide) e,S.hx.tr rfl hf⟩
 ·refine af (fun o e=>?_) (S.zd b hb);refine ab (fun o' e' J=>?_) (g.dom b o e);exact⟨o',e'⟩
 ·have hrl:r < H.length:=by rw[←S.len];exact(List.getElem?_eq_some_iff.mp ea).1
  by_cases hrr:r'=r
  ·subst hrr;rw[List.getElem?_set_self hrl] at e;exists e;exact⟨a,ea,hob⟩
  ·rw[List.getElem?_set_ne (Ne.symm hrr)] at e;refine ab (fun c e1 q=>?_) (S.hr r' l' e)
   have hca:c≠a:=fun q=>by
    subst q;obtain⟨h1,h2⟩:=List.getElem?_eq_some_iff.mp ea;obtain⟨h3,h4⟩:=List.getElem?_eq_some_iff.mp e1;exact hrr ((List.getElem_inj S.nd).mp (h4.trans h2.symm))
   exact⟨c,e1,q.tr hf g.sig fun o e=>(hs.2 c hca).trans e⟩
theorem St.setOb'(S:St K P A σ Z H s){ob:Ob}(ea:σ[r]? =some a)(t:Nat)(hs:∀ b o,b≠a→s.heap.get? b=some o→h'.get? b=some o)(hd:∀ o,s.heap.get? a=some o→∃ o',h'.get? a=some o'∧(cT o=true→cT o'=true))(hob:OR P h' σ Z ob a):St K P A σ Z (H.set r ob) {s with heap:=h',toks:=t}:=by
 have ham:a∈σ:=List.mem_of_getElem? ea
 have g:Go Z σ [] s σ {s with heap:=h',toks:=t}:=.of ⟨fun b o e J hb J=>hs b o (fun q=>hb (q▸ham)) e,fun b o e=>by
  by_cases hb:b=a
  ·subst hb;exact hd o e
  ·exact⟨o,hs b o hb e,fun h=>h⟩,⟨[],by walk_at "s",fun J h=>nomatch h⟩,rfl,rfl⟩
 have low:∀ b o,b < 378→s.heap.get? b=some o→h'.get? b=some o:=fun b o hb e=>hs b o (fun q=>absurd (S.ks a ham) (Nat.not_le.mpr (q▸hb))) e;have hf:=g.keepFz (Z:=Z) fun J h=>nomatch h;refine⟨fun b o e=>low b o (S.kb b o e).1 (S.kin b o e),S.kb,Bs.go S g (fun J h=>nomatch h),S.ks,S.kz,fun b hb=>?_,by rw[List.length_set];exact S.len,S.nd,S.apart,fun r' l' e=>?_,S.gens,S.fr.go g,S.tb.tr hf fun o e=>low _ o (by decide) e,S.hx.tr rfl hf⟩
 ·refine af (fun o e=>?_) (S.zd b hb);refine ab (fun o' e' J=>?_) (g.dom b o e);exact⟨o',e'⟩
 ·have hrl:r < H.length:=by rw[←S.len];exact(List.getElem?_eq_some_iff.mp ea).1
  by_cases hrr:r'=r
  ·subst hrr;rw[List.getElem?_set_self hrl] at e;exists e;exact⟨a,ea,hob⟩
  ·rw[List.getElem?_set_ne (Ne.symm hrr)] at e;refine ab (fun c e1 q=>?_) (S.hr r' l' e)
   have hca:c≠a:=fun q=>by
    subst q;obtain⟨h1,h2⟩:=List.getElem?_eq_some_iff.mp ea;obtain⟨h3,h4⟩:=List.getElem?_eq_some_iff.mp e1;exact hrr ((List.getElem_inj S.nd).mp (h4.trans h2.symm))
   exact⟨c,e1,q.tr hf g.sig fun o e=>hs c o hca e⟩
theorem AW(S:St K P A σ Z H s)(hv:ak P s.heap σ Z us vs)(hl:us.length≤1000)(hQ:∀ v s' σ',Go Z σ [] s σ' s'→St K P A σ' Z (H++[.l us]) s'→VR P s'.heap σ' Z (.ob H.length) v→Q v s'):wpAny (model prog w) A (newList vs) Q E s:=by
 have g:=Go.pushOb Z σ s {cls:=.type "list",data:=.seq vs.toArray} s.toks;refine wpAny_newObj_type (hQ _ {s with heap:=s.heap.push {cls:=.type "list",data:=.seq vs.toArray}} (σ++[s.heap.objs.size]) g (S.newOb _ s.toks (ob:=.l us) ⟨vs.toArray,⟨0,Heap.get?_push_size _ rfl⟩,ak.go g (fun J h=>nomatch h) us hv⟩) ?_) (by show vs.toArray.size≤sizeLine;rw[List.size_toArray,←hv.length];exact Nat.le_trans hl (by decide));exact⟨_,rfl,S.newAt⟩
theorem aZ(h:Es prog w K d hd env ρ (spliced (backTo pos (starEach es env))) H (B2 k) kx):
  Ev prog w K d hd env ρ (eval (.List es pos) env) H k kx:=by
 intro A σ Z s Q E hA S F hQ hE;refine List_ (h A σ Z s _ _ hA S F (fun vs s1 σ1 us H1 g1 S1 hu hk=>?_) hE);obtain⟨h1,h2⟩:=hk;exact AW S1 hu h1 fun v s' σ' g' S' hv=>hQ v s' σ' _ _ (g1.trans g') S' hv h2
theorem bF(hr:H[r]? =some (.l l))(hl:l.length≤1000)(h:k .none (H.set r (.l (l++[x])))):Pr prog w K d hd [.ob r,x] (fun vs=>call (.builtin "list.append") vs) H k kx:=by
 refine az fun A σ Z s a b Q E hA S q1 q2 hQ hE=>?_;obtain⟨a,rfl,ea⟩:=q1;obtain⟨ys,hpl,hys⟩:=S.ob ea hr
 have hsz:ys.size≤sizeLine:=by
  have e:ys.toList.length=ys.size:=by walk_at "s"
  rw[←e,←hys.length];exact Nat.le_trans hl (by decide)
 refine wpAny_list_append_plain (hsz:=hsz) hpl fun h' hpl' hs=>?_
 have hdd:∀ o,s.heap.get? a=some o→∃ o',h'.get? a=some o'∧(cT o=true→cT o'=true):=fun o e=>by
  revert hpl';refine af fun n e1=>?_
  revert hpl;refine af fun n2 e2=>?_
  rw[e2] at e;exists e;exact⟨_,e1,fun h=>by exists h⟩
 have g:=Go.setOb (Z:=Z) S (List.mem_of_getElem? ea) s.toks hs hdd;refine hQ .none _ σ .none _ g (S.setOb (ob:=.l (l++[x])) ea s.toks hs hdd ⟨ys.push b,hpl',?_⟩) VR.none' h;rw[Array.toList_push];exact ak.snoc (VR.go g (fun J h=>nomatch h) _ q2) (ak.go g (fun J h=>nomatch h) _ hys)
noncomputable def Gm(K:Frag)(P:Params)(u:V)(name:Str)(id:String)(H:Hp):Prop:=
 ∀ (M:Model) (A:Around) (σ Z:List Addr) (s:Shared) (v:Value) (pl:Sem Bool) (Q:Value × List Value→Shared→Prop) (E:Value→Shared→Prop),St K P A σ Z H s→VR P s.heap σ Z u v→Q (.builtin id,[v]) s→wpAny M A (getMethod v name pl) Q E s
variable{kx:X→Hp→Prop}
inductive BY (name:Str) (id:String) (prog:Program) (w:World) (K:Frag) (d:Nat) (hd:Hd) (env:Env) (ρ:ai) (t:Sem (List Value)) (k:V→Hp→Prop) (kx:X→Hp→Prop) (u:V) (H:Hp):Prop
 | mk:Gm K w.params u name id H→Es prog w K d hd env ρ t H (xu prog w K d hd u (fun vs=>call (.builtin id) vs) k kx) kx→BY name id prog w K d hd env ρ t k kx u H
inductive za (name:Str) (id:String) (prog:Program) (w:World) (K:Frag) (d:Nat) (hd:Hd) (k:V→Hp→Prop) (kx:X→Hp→Prop) (u:V) (H:Hp):Prop
 | mk:Gm K w.params u name id H→Pr prog w K d hd [u] (fun vs=>call (.builtin id) vs) H k kx→za name id prog w K d hd k kx u H
variable{o:PySem.Expr}{name:Str}{pl:Sem Bool}
theorem bl{id:String}(hev:eval (.Call (.Attribute o name apos) (e::rest) [] pos) env=(do
   let ov←eval o env
   standAt apos.atName
   let (f,first)←holding [ov] (getMethod ov name pl)
   callWith pos f first (backTo pos (starEach (e::rest) env)) []))(he:starEach (e::rest) env=(false,eval e env)::starEach rest env)(hplain:(backTo pos (starEach rest env)).any (·.1)=false)(h:Ev prog w K d hd env ρ (eval o env) H (BY name id prog w K d hd env ρ (spliced (backTo pos (starEach (e::rest) env))) k kx) kx):
  Ev prog w K d hd env ρ (eval (.Call (.Attribute o name apos) (e::rest) [] pos) env) H k kx:=by
 intro A σ Z s Q E hA S F hQ hE;refine MethodCall_ (pl:=pl) (h A σ Z s _ _ hA S F (fun v s1 σ1 u H1 g1 S1 hu hk=>?_) hE) hev;obtain⟨h1,h2⟩:=hk;refine h1 _ A σ1 Z s1 v pl _ E S1 hu (callWith_method1 (h2 A σ1 Z s1 _ _ hA S1 (F.go S g1) (fun vs s2 σ2 us H2 g2 S2 hus hk2=>?_) (hE.go g1)) he hplain);refine hk2 A σ2 Z s2 (v::vs) _ _ hA S2 ?_ (hQ.go (g1.trans g2)) (hE.go (g1.trans g2));exact⟨v,vs,rfl,VR.go g2 (fun J h=>nomatch h) _ hu,hus⟩
theorem fy{id:String}(hev:eval (.Call (.Attribute o name apos) [] [] pos) env=(do
   let ov←eval o env
   standAt apos.atName
   let (f,first)←holding [ov] (getMethod ov name pl)
   callWith pos f first (backTo pos (starEach [] env)) []))(h:Ev prog w K d hd env ρ (eval o env) H (za name id prog w K d hd k kx) kx):
  Ev prog w K d hd env ρ (eval (.Call (.Attribute o name apos) [] [] pos) env) H k kx:=by
 intro A σ Z s Q E hA S F hQ hE;refine MethodCall_ (pl:=pl) (h A σ Z s _ _ hA S F (fun v s1 σ1 u H1 g1 S1 hu hk=>?_) hE) hev;obtain⟨h1,h2⟩:=hk;refine h1 _ A σ1 Z s1 v pl _ E S1 hu (callWith_method0 ?_);exact h2 A σ1 Z s1 [v] _ _ hA S1 (ak.one hu) (hQ.go g1) (hE.go g1)
theorem bM(hr:H[r]? =some (.l l)):Gm K w.params (.ob r) (Str.ofString "append") "list.append" H:=by
 intro M A σ Z s v pl Q E S hv hQ;obtain⟨a,rfl,ea⟩:=hv;obtain⟨ys,⟨n,ho⟩,_⟩:=S.ob ea hr;exact Calls.getMethod_list_append ho rfl rfl hQ
theorem qa(hr:H[r]? =some (.l l))(h0:0≤i)(hu:l[i.toNat]? =some u)(hl:l.length≤1000)(h:k u H):Pr prog w K d hd [.ob r,.int i] gI H k kx:=by
 refine az fun A σ Z s a b Q E hA S h1 h2 hQ hE=>?_;obtain⟨a,rfl,ea⟩:=h1
 revert h2;refine af fun t t=>?_;obtain rfl:=t
 obtain⟨ys,hpl,hys⟩:=S.ob ea hr;refine ab (fun v e hv=>?_) (ak.get hys hu);have hlt:=(List.getElem?_eq_some_iff.mp hu).1;exact wpAny_getItem_list hpl.isList h0 (by omega) (by rw[←Array.getElem?_toList];exact e) (hQ v s σ u H (Go.refl ..) S hv h)
theorem f7(hr:H[r]? =some (.l l))(h0:i < 0)(h1: -(l.length:Int)≤i)(hu:l[(i+l.length).toNat]? =some u)(hl:l.length≤1000)(h:k u H):Pr prog w K d hd [.ob r,.int i] gI H k kx:=by
 refine az fun A σ Z s a b Q E hA S q1 q2 hQ hE=>?_;obtain⟨a,rfl,ea⟩:=q1
 revert q2;refine af fun t t=>?_;obtain rfl:=t
 obtain⟨ys,hpl,hys⟩:=S.ob ea hr;refine ab (fun v e hv=>?_) (ak.get hys hu);have hsz:(ys.size:Int)=l.length:=by rw[hys.length];simp
 exact wpAny_getItem_list_neg hpl.isList h0 (by omega) (by omega) (by rw[hsz,←Array.getElem?_toList];exact e) (hQ v s σ u H (Go.refl ..) S hv h)
theorem j3(hr:H[r]? =some (.l l))(hl:l.length≤1000)(h:k (.int l.length) H):Pr prog w K d hd [.ob r] (fun vs=>call (.builtin "len") vs) H k kx:=by
 refine bu fun A σ Z s u Q E hA S hu hQ hE=>?_;obtain⟨a,rfl,ea⟩:=hu;obtain⟨ys,hpl,hys⟩:=S.ob ea hr;have e:=hys.length;have e':ys.toList.length=ys.size:=by walk_at "s"
 refine Calls.call_len_list hpl.isList (by omega) ?_;rw[←e',←e];exact hQ _ _ σ (.int l.length) H (Go.tok ..) (S.tok _) VR.int h
variable{kx:X→Hp→Prop}
inductive z0 (k:Option Int→Hp→Prop) (u:V) (H:Hp):Prop
 | mk (i:Int):u=.int i→k (some i) H→z0 k u H
noncomputable def Ep(prog:Program)(w:World)(K:Frag)(d:Nat)(hd:Hd)(env:Env)(ρ:ai)(t:Option PySem.Expr)(H:Hp)(k:Option Int→Hp→Prop)(kx:X→Hp→Prop):Prop:=
 match t with
 | none=>k none H
 | some e=>Ev prog w K d hd env ρ (eval e env) H (z0 k) kx
noncomputable abbrev Eh(k:V→Hp→Prop)(lo hi st:Option Int)(H:Hp):Prop:=k (.slc lo hi st) H
noncomputable abbrev Eg(prog:Program)(w:World)(K:Frag)(d:Nat)(hd:Hd)(env:Env)(ρ:ai)(st:Option PySem.Expr)(k:V→Hp→Prop)(kx:X→Hp→Prop)(lo hi:Option Int)(H:Hp):Prop:=Ep prog w K d hd env ρ st H (Eh k lo hi) kx
noncomputable abbrev Ef(prog:Program)(w:World)(K:Frag)(d:Nat)(hd:Hd)(env:Env)(ρ:ai)(u st:Option PySem.Expr)(k:V→Hp→Prop)(kx:X→Hp→Prop)(lo:Option Int)(H:Hp):Prop:=Ep prog w K d hd env ρ u H (Eg prog w K d hd env ρ st k kx lo) kx
theorem qN{t:Option PySem.Expr}{ko:Option Int→Hp→Prop}(h:Ep prog w K d hd env ρ t H ko kx)(hA:cF A d hd)(S:St K w.params A σ Z H s)(F:FR w.params σ Z env ρ s.heap)(hQ:∀ v s' σ' o H',Go Z σ [] s σ' s'→St K w.params A σ' Z H' s'→IsPart v o→ko o H'→Q v s')(hE:∀ e s' σ' x H',Go Z σ [] s σ' s'→St K w.params A σ' Z H' s'→XR K w.params A s.heap s' σ' Z H' x e→kx x H'→E e s'):wpAny (model prog w) A (evalPart t env) Q E s:=by
 cases t with
 | none=>exact evalPart_none_step (hQ _ s σ none H (Go.refl ..) S .none h)
 | some e=>
  refine evalPart_some_step (h A σ Z s _ _ hA S F (fun v s' σ' u H' g S' hu hk=>?_) hE);obtain⟨i,q,hk⟩:=hk;obtain rfl:=q
  revert hu;refine af fun t t=>?_;obtain rfl:=t
  exact hQ _ s' σ' (some i) H' g S' (.int i t) hk
theorem B8{l u st:Option PySem.Expr}(h:Ep prog w K d hd env ρ l H (Ef prog w K d hd env ρ u st k kx) kx):
  Ev prog w K d hd env ρ (eval (.Slice l u st p) env) H k kx:=by
 intro A σ Z s Q E hA S F hQ hE;refine wpAny_Slice (qN h hA S F (fun v1 s1 σ1 o1 H1 g1 S1 p1 h1=>?_) hE);refine qN h1 hA S1 (F.go S g1) (fun v2 s2 σ2 o2 H2 g2 S2 p2 h2=>?_) (hE.go g1);refine qN h2 hA S2 ((F.go S g1).go S1 g2) (fun v3 s3 σ3 o3 H3 g3 S3 p3 h3=>?_) (hE.go (g1.trans g2));refine hQ _ _ σ3 (.slc o1 o2 o3) H3 (g1.trans (g2.trans (g3.trans (Go.push Z σ3 s3 _ s3.toks)))) (S3.push _ s3.toks) ?_ h3;exact⟨_,v1,v2,v3,rfl,S3.fresh,Heap.IsSliceOf.new ..,p1,p2,p3⟩
noncomputable def cr(l:List V)(lo hi st:Option Int):List V:=
 (sliceRange (sliceBounds lo hi st l.length).1 (sliceBounds lo hi st l.length).2.1 (sliceBounds lo hi st l.length).2.2).filterMap (l[·]?)
theorem ak.pick{P:Params}{h:Heap}{σ Z:List Addr}{l:List V}{vs:Array Value}(q:ak P h σ Z l vs.toList):∀ (ix:List Nat),ak P h σ Z (ix.filterMap (l[·]?)) (ix.filterMap (vs[·]?))
 | []=>ak.nil
 | i::r=>by
  have ih:=ak.pick q r;have hl:=q.length;rw[List.filterMap_cons,List.filterMap_cons];cases e:l[i]? with
  | none=>
   have e2:vs[i]? =none:=by
    rw[←Array.getElem?_toList];exact List.getElem?_eq_none (by rw[←hl];exact List.getElem?_eq_none_iff.mp e)
   rw[e2];exact ih
  | some u=>
   refine ab (fun v e1 hv=>?_) (q.get e);have e2:vs[i]? =some v:=by rw[←Array.getElem?_toList];exact e1
   rw[e2];show ak P h σ Z (u::_) (v::_);exact⟨v,_,rfl,hv,ih⟩
variable{lo hi st:Option Int}
theorem nR{vs:Array Value}{b:Addr}{vl vu vt:Value}(S:St K w.params A σ Z H s)(hl:l.length≤1000)(h0:st≠some 0)(hpl:s.heap.IsList a vs)(hvs:ak w.params s.heap σ Z l vs.toList)(hs:s.heap.IsSliceOf b vl vu vt)(p1:IsPart vl lo)(p2:IsPart vu hi)(p3:IsPart vt st)(hQ:∀ v s',Go Z σ [] s σ s'→St K w.params A σ Z H s'→VR w.params s'.heap σ Z (.lst (cr l lo hi st)) v→Q v s'):wpAny (model prog w) A (getItem (.ref a) (.ref b)) Q E s:=by
 have e1:vs.size=l.length:=by rw[hvs.length];simp
 refine wpAny_getItem_list_slice hpl hs p1 p2 p3 h0 (hQ _ {s with heap:=s.heap.push {cls:=.type "list",data:=.seq (slicePick vs lo hi st)}} (Go.push Z σ s _ s.toks) (S.push _ s.toks) ?_) (by rw[e1];exact Nat.le_trans hl (by decide));refine⟨_,slicePick vs lo hi st,rfl,S.fresh,⟨0,Heap.get?_push_size _ rfl⟩,?_⟩;rw[slicePick,cr];rw[e1];exact ak.pick (ak.go (Go.push Z σ s _ s.toks) (fun J h=>nomatch h) _ hvs) _
theorem eq(hl:l.length≤1000)(h0:st≠some 0)(h:k (.lst (cr l lo hi st)) H):Pr prog w K d hd [.lst l,.slc lo hi st] gI H k kx:=by
 refine az fun A σ Z s a b Q E hA S q1 q2 hQ hE=>?_;obtain⟨a,vs,rfl,f,hpl,hvs⟩:=q1;obtain⟨b,vl,vu,vt,rfl,fb,hs,p1,p2,p3⟩:=q2;exact nR S hl h0 hpl.isList hvs hs p1 p2 p3 fun v s' g S' hv=>hQ v s' σ _ H g S' hv h
theorem qe(hr:H[r]? =some (.l l))(hl:l.length≤1000)(h0:st≠some 0)(h:k (.lst (cr l lo hi st)) H):Pr prog w K d hd [.ob r,.slc lo hi st] gI H k kx:=by
 refine az fun A σ Z s a b Q E hA S q1 q2 hQ hE=>?_;obtain⟨a,rfl,ea⟩:=q1;obtain⟨ys,hpl,hys⟩:=S.ob ea hr;obtain⟨b,vl,vu,vt,rfl,fb,hs,p1,p2,p3⟩:=q2;exact nR S hl h0 hpl.isList hys hs p1 p2 p3 fun v s' g S' hv=>hQ v s' σ _ H g S' hv h
section
variable(prog:Program)(w:World)(K:Frag)(d:Nat)(hd:Hd)(env:Env)(Xw:List Addr)
noncomputable def Al:List PySem.Expr→List V→ai→Hp→(ai→Hp→Prop)→Prop
 | [],[],ρ,H,k=>k ρ H
 | t::ts,u::us,ρ,H,k=>As prog w K d hd env Xw ρ (assign t env) u H (fun ρ' H'=>Al ts us ρ' H' k) (fun J J J=>False)
 | _,_,_,_,_=>False
end
section
variable{prog:Program}{w:World}{K:Frag}{d:Nat}{hd:Hd}{env:Env}{Xw:List Addr}{ρ:ai}{H:Hp}{ka:ai→Hp→Prop}{kx:X→ai→Hp→Prop}
theorem mT(h:ka ρ H):Al prog w K d hd env Xw [] [] ρ H ka:=h
theorem u4(hX:∀ a∈Xw,a∈own env):∀ (ts:List PySem.Expr) (us:List V) (vs:List Value) (ρ:ai) (H:Hp) (A:Around) (σ Z:List Addr) (s:Shared) (Q:Unit→Shared→Prop) (E:Value→Shared→Prop),Al prog w K d hd env Xw ts us ρ H ka→cF A d hd→St K w.params A σ Z H s→FR w.params σ Z env ρ s.heap→
  ak w.params s.heap σ Z us vs→(∀ s' σ' ρ' H',Go Z σ Xw s σ' s'→St K w.params A σ' Z H' s'→FR w.params σ' Z env ρ' s'.heap→ka ρ' H'→Q () s')→wpAny (model prog w) A (assignInOrder (ts.map fun t=>assign t env) vs) Q E s
 | [],[]=>fun vs ρ H A σ Z s Q E h hA S F hv hQ=>by
  exact wpAny_pure (hQ s σ ρ H (Go.refl ..) S F h)
 | [],_::_=>fun vs ρ H A σ Z s Q E h hA S F hv hQ=>False.elim h
 | _::_,[]=>fun vs ρ H A σ Z s Q E h hA S F hv hQ=>False.elim h
 | t::ts,u::us=>fun vs ρ H A σ Z s Q E h hA S F hv hQ=>by
  revert hv;refine aV fun v r q t=>?_;obtain rfl:=q;revert t;refine am fun hu hr=>?_
  show wpAny _ A (holding r (assign t env v) >>= fun J=>assignInOrder (ts.map fun t=>assign t env) r) Q E s;refine wpAny_bind (wpAny_holding (h A σ Z s v _ _ hA S F hu (fun s1 σ1 ρ1 H1 g1 S1 F1 hk=>?_) (fun e s' σ' x ρ' H' J J J J hf=>False.elim hf)));exact u4 hX ts us r ρ1 H1 A σ1 Z s1 Q E hk hA S1 F1 (ak.go g1 (fun a ha=>F.ownZ a (hX a ha)) _ hr) fun s' σ' ρ' H' g'=>hQ s' σ' ρ' H' (g1.trans g')
theorem de(hn:hd.h=true)(hX:∀ a∈Xw,a∈own env)(hlen:elts.length=us.length)(hm:(assignEach elts env).map (·.2)=elts.map fun t=>assign t env)(hstar:(assignEach elts env).findIdx? (·.1)=none)(h:Al prog w K d hd env Xw elts us ρ H ka):As prog w K d hd env Xw ρ (assign (.Tuple elts kk pos) env) (.tup us) H ka kx:=by
 intro A σ Z s v Q E hA S F hv hQ hE;obtain⟨a,vs,rfl,f,ht,hvs⟩:=hv;have e1:vs.size=us.length:=by rw[hvs.length];simp
 have e2:(assignEach elts env).length=elts.length:=by
  have:=congrArg List.length hm
  simpa using this
 refine wpAny_assign_Tuple (hA.none hn) ht (by rw[e2,hlen,e1]) hstar fun h' hx=>?_;rw[hm];have kp:∀ b o,s.heap.get? b=some o→h'.get? b=some o:=fun b o e=>hx b o (Nat.ne_of_lt (Heap.lt_size e)) e;have g:Go Z σ [] s σ {s with heap:=h'}:=.of ⟨fun b o e J J J=>kp b o e,fun b o e=>⟨o,kp b o e,fun h=>h⟩,⟨[],by walk_at "s",fun J h=>nomatch h⟩,rfl,rfl⟩;exact u4 hX elts us vs.toList ρ H A σ Z {s with heap:=h'} Q E h hA (S.go g (fun J h=>nomatch h) fun a o J e=>kp a o e) (F.go S g) (ak.go g (fun J h=>nomatch h) _ hvs) fun s' σ' ρ' H' g' S' F' hk=>hQ s' σ' ρ' H' (g.trans g' fun J h=>nomatch h) S' F' hk
end
section
open Builtin Builtin.Str
variable{kx:X→Hp→Prop}
noncomputable def kt(x:Str)(lo hi:Option Int):Str:=
 if ((strSliceIndices lo hi 1 x.length).length==x.length)=true then x else ⟨((strSliceIndices lo hi 1 x.length).filterMap (x.cps[·]?)).toArray⟩
theorem sY{o:Option Int}(p:IsPart v o):∃ q:Option (Int × Tok),v=partValue q∧q.map (·.1)=o:=by
 cases p with
 | none=>exact⟨none,rfl,rfl⟩
 | int i t=>exact⟨some (i,t),rfl,rfl⟩
variable{x:Str}
theorem js(hl:(kt x lo hi).length≤sizeLine)(h:k (.str (kt x lo hi)) H):Pr prog w K d hd [.str x,.slc lo hi none] gI H k kx:=by
 refine az fun A σ Z s a b Q E hA S q1 q2 hQ hE=>?_
 revert q1;refine af fun t t=>?_;obtain rfl:=t
 obtain⟨b,vl,vu,vt,rfl,fb,hs,p1,p2,p3⟩:=q2;refine ab (fun l q hlo=>?_) (sY p1);obtain rfl:=q;refine ab (fun u q hhi=>?_) (sY p2);obtain rfl:=q;exists p3;refine wpAny_getItem_str_slice (st:=none) (l:=l) (u:=u) hs rfl ?_;unfold sliceMade slicePicked;rw[hlo,hhi];rw[kt] at hl h
 by_cases e:((strSliceIndices lo hi 1 x.length).length==x.length)=true
 ·rw[if_pos e] at h
  have e':(((none:Option (Int × Tok)).map (·.1)).getD 1==1&&(strSliceIndices lo hi (((none:Option (Int × Tok)).map (·.1)).getD 1) x.length).length==x.length)=true:=by
   show(true&&_)=true;rw[Bool.true_and];exact e
  rw[if_pos e'];exact hQ _ s σ (.str x) H (Go.refl ..) S VR.str h
 ·rw[if_neg e] at h hl
  have e':¬ (((none:Option (Int × Tok)).map (·.1)).getD 1==1&&(strSliceIndices lo hi (((none:Option (Int × Tok)).map (·.1)).getD 1) x.length).length==x.length)=true:=by
   show ¬ (true&&_)=true;rw[Bool.true_and];exact e
  rw[if_neg e'];exact⟨hl,hQ _ _ σ (.str _) H (Go.tok ..) (S.tok _) VR.str h⟩
theorem jc:Gm K w.params (.str x) (Str.ofString "lower") "str.lower" H:=by
 intro M A σ Z s v pl Q E S hv hQ
 revert hv;refine af fun t t=>?_;obtain rfl:=t
 exact GM.lower hQ
theorem pD:Gm K w.params (.str x) (Str.ofString "upper") "str.upper" H:=by
 intro M A σ Z s v pl Q E S hv hQ
 revert hv;refine af fun t t=>?_;obtain rfl:=t
 exact GM.upper hQ
theorem lM{id:String}(slot:Slot "str" name id)(ty:typeOf (.builtin id)=pure (.type "method_descriptor")):Gm K w.params (.str x) name id H:=by
 intro M A σ Z s v pl Q E S hv hQ
 revert hv;refine af fun t t=>?_;obtain rfl:=t
 exact GM.of (.str x t) (typeIs_str _ _ _) slot ty (fun J e=>nomatch e) hQ
end
theorem bf(hn:hd.h=true){y:Str}{b:Int}(hlo: -(2 ^ 62)≤b∧b < 2 ^ 62):
  It prog w K d hd (.Name y p) [.int b] (fun vs=>call (.type "range") vs) ((List.range b.toNat).map fun i:Nat=>V.int (i:Int)) H:=by
 intro A σ Z s vs Q E hA S hv hQ;obtain⟨v2,rfl,h2⟩:=hv.inv1
 revert h2;refine af fun t2 t=>?_;obtain rfl:=t
 refine call_range_1 ?_;refine wpAny_pyIter_range (IsRange.new ..) (small_one (by decide) (by decide) hlo.1 hlo.2) ?_;have hsz:Builtin.Range.rangeSize 0 b 1=((b.toNat:Nat):Int):=by rw[rangeSize_one];split <;> omega
 have W:=Walks.range (prog:=prog) (w:=w) (hA.none hn) (s.heap.push {cls:=.type "range",data:=.fields #[.int 0 s.toks,.int b t2,.int 1 (s.toks+1)]}).objs.size 0 1 b.toNat;refine hQ _ _ ⟨_,_,_,_,_,rfl,?_,fun b' o e=>Heap.get?_push_of_some _ (Heap.get?_push_of_some _ e),(Wk.of_walks W (fun J=>rfl) (fun i h st b' hb=>?_) (fun i h st b' hb o e=>by rw[List.mem_singleton.mp hb,(show h.get? _=_ from st)] at e;exists e;rfl)).cast (by walk_at "s"),?_,fun b' hb=>?_,fun b' hb=>.inl hb,fun i x y h h' σ' Z' hx hP hf hs J J=>?_⟩
 ·exact .of ⟨fun b' o e J J J=>Heap.get?_push_of_some _ (Heap.get?_push_of_some _ e),fun b' o e=>⟨o,Heap.get?_push_of_some _ (Heap.get?_push_of_some _ e),fun h=>h⟩,⟨[],by walk_at "s",fun J h=>nomatch h⟩,rfl,rfl⟩
 ·exact⟨_,(List.mem_singleton.mp hb)▸st⟩
 ·have e1:((0:Int)+((0:Nat):Int) * 1)=0:=by walk_at "s"
  have e2:(((b.toNat:Nat):Int) - ((0:Nat):Int))=Builtin.Range.rangeSize 0 b 1:=by rw[hsz];simp
  show IsRangeIter _ _ ((0:Int)+((0:Nat):Int) * 1) (((b.toNat:Nat):Int) - ((0:Nat):Int)) 1;rw[e1,e2];exact Heap.get?_push_size _ rfl
 ·rw[List.mem_singleton.mp hb,Heap.size_push];exact⟨Heap.get?_none_of_le (Nat.le_succ _),Nat.le_succ _⟩
 ·revert hP;refine af fun t t=>?_;obtain rfl:=t
  rw[List.getElem?_map] at hx;refine ab (fun j hj t=>?_) (Option.map_eq_some_iff.mp hx);obtain rfl:=t
  have:j=i:=by
   obtain⟨h1,h2⟩:=List.getElem?_eq_some_iff.mp hj
   simpa using h2.symm
  subst this;exact⟨t,by walk_at "s"⟩
open AutoSeq1 (wpAny_loadPart')
set_option tactic.hygienic true in
theorem pQ(l:Addr)(items:Array Value)(n:Nat)(dct:Option Addr)(sl:Array (Option Value)):
  Meets (Builtin.«enumerate.__new__» ⟨[.type "enumerate",.ref l],[]⟩) (fun J R s=>s.heap.get? l=some {cls:=.type "tuple",dict:=dct,data:=.seq items n,slots:=sl}∧
   R (.ok (.ret (.ref (s.heap.push {cls:=.type "tuple_iterator",data:=.fields #[.ref l,.int 0 0]}).objs.size)))
    {s with heap:=(s.heap.push {cls:=.type "tuple_iterator",data:=.fields #[.ref l,.int 0 0]}).push {cls:=.type "enumerate",data:=.fields #[.none,.bool false,.ref s.heap.objs.size,rawInt 0,.none,.none]}}):=
 .of_wp fun prog w A R s h=>by
  obtain⟨hp,g,d,tk,os⟩:=s;revert h;refine am fun hl h=>?_;have hsub:=sub_enumerate;have hL:Heap.IsTuple (Shared.heap ⟨hp,g,d,tk,os⟩) l items:=⟨_,hl,rfl,n,rfl⟩
  wp_walk using wpAny_loadPart' hl
  refine wpAny_stack_any fun st=>wpAny_pure ?_;split
  ·rename_i c _ _ _ _ _;cases (c==Value.type "enumerate")
   ·wp_walk using wpAny_loadPart' hl,wpAny_pyIter_tuple hL
    exact⟨_,rfl,h⟩
   ·wp_walk using wpAny_loadPart' hl,wpAny_pyIter_tuple hL
    exact⟨_,rfl,h⟩
  ·wp_walk using wpAny_loadPart' hl,wpAny_pyIter_tuple hL
   exact⟨_,rfl,h⟩
variable{it t:Addr}{i:Nat}
theorem m4{items}{x:Value}(hit:s.heap.IsTupleIter it t i)(ht:s.heap.IsTuple t items)(hx:items[i]? =some x)(hQ:∀ h',h'.IsTupleIter it t (i+1)→Heap.SameBut it s.heap h'→Q x {s with heap:=h'}):wpAny (model prog w) A (Builtin.SmallTypes.nextOf (.ref it)) Q E s:=by
 refine fo (fun o ho hc hd=>?_) (id hit);obtain⟨ol,hol,_,nl,hdl⟩:=ht;unfold Builtin.SmallTypes.nextOf
 refine wpAny_bind (wpAny_callSpecial?_slot (name:=Str.ofString "__next__") hit.typeIs F.slot_tuple_iterator_next
  (wpAny_call_entry F.slot_tuple_iterator_next hit.typeIs F.entry_tuple_iterator_next ?_ (F.args_tuple_iterator_next_1 _)))
 show wpAny _ _ (field (.ref it) 0 >>= _) _ _ s;refine wpAny_bind (wpAny_field ho hd (x:=.ref t) rfl ?_);show wpAny _ _ (if (Value.ref t==Value.none)=true then _ else _) _ _ s;rw[if_neg (show ¬ ((Value.ref t==Value.none)=true) from Bool.false_ne_true)];show wpAny _ _ (field (.ref it) 1 >>= _) _ _ s;refine wpAny_bind (wpAny_field ho hd (x:=.int i 0) rfl ?_);show wpAny _ _ (seqItems? (.ref t) >>= _) _ _ s;refine wpAny_bind (wpAny_seqItems hol hdl ?_);simp only[Int.toNat_natCast,hx];refine wpAny_bind (wpAny_setField ho hd (by walk_at "s") (wpAny_pure ⟨x,rfl,wpAny_pure (hQ _ ?_ (Heap.SameBut.update ..))⟩))
 exact⟨_,Heap.get?_update_self _ ho (Obj.isFreed_of_fields (Obj.data_mapFields hd _)),(Obj.cls_mapFields ..).trans hc,by
  rw[Obj.data_mapFields hd];simp[rawInt]⟩
theorem oM{items}(hh:A.handled=none)(hit:s.heap.IsTupleIter it t i)(ht:s.heap.IsTuple t items)(hx:items[i]? =none)(hE:∀ h' e,Heap.ExtBut it s.heap h'→(∃ o,h'.get? e=some o∧o.cls=.type "StopIteration")→E (.ref e) {s with heap:=h'}):wpAny (model prog w) A (Builtin.SmallTypes.nextOf (.ref it)) Q E s:=by
 refine fo (fun o ho hc hd=>?_) (id hit);obtain⟨ol,hol,_,nl,hdl⟩:=ht;unfold Builtin.SmallTypes.nextOf
 refine wpAny_bind (wpAny_callSpecial?_slot (name:=Str.ofString "__next__") hit.typeIs F.slot_tuple_iterator_next
  (wpAny_call_entry F.slot_tuple_iterator_next hit.typeIs F.entry_tuple_iterator_next ?_ (F.args_tuple_iterator_next_1 _)))
 show wpAny _ _ (field (.ref it) 0 >>= _) _ _ s;refine wpAny_bind (wpAny_field ho hd (x:=.ref t) rfl ?_);show wpAny _ _ (if (Value.ref t==Value.none)=true then _ else _) _ _ s;rw[if_neg (show ¬ ((Value.ref t==Value.none)=true) from Bool.false_ne_true)];show wpAny _ _ (field (.ref it) 1 >>= _) _ _ s;refine wpAny_bind (wpAny_field ho hd (x:=.int i 0) rfl ?_);show wpAny _ _ (seqItems? (.ref t) >>= _) _ _ s;refine wpAny_bind (wpAny_seqItems hol hdl ?_);simp only[Int.toNat_natCast,hx];refine wpAny_bind (wpAny_rule (wpAny_bind (wpAny_setField ho hd (by walk_at "s") ?_)));show wpAny _ _ (newExc (.type "StopIteration") [] >>= _) _ _ _;refine wpAny_bind ?_;simp only[newExc,newTuple];refine wpAny_bind (wpAny_newObj_type ?_ (by size_fits));refine wpAny_bind (m:=firstArgMember _ _) (wpAny_of_eq (a:=Value.none) (by first | rfl | (simp only[firstArgMember];rfl)) ?_);refine wpAny_newObj_type ?_ (by size_fits);simp only[raiseNew];refine wpAny_bind (wpAny_handled ?_)
 first | rw[show A.in1.handled=none from hh] | rw[hh]
 refine wpAny_bind (wpAny_pure (wpAny_throw ?_));exact hE _ _ (((Heap.SameBut.update ..).extBut.push _).push _) ⟨_,Heap.get?_push_size _ rfl,rfl⟩
theorem o8(hh:A.handled=none)(it l:Addr)(hne:l≠it)(items:Array Value):
  Draws prog w A it [it,l] items.size (fun i v=>items[i]? =some v) (fun i h=>h.IsTupleIter it l i∧h.IsTuple l items) where
 live:=fun J J st=>let ⟨o,ho,_⟩:=st.1;⟨o,ho⟩
 frame:=fun J J J st hk=>⟨st.1.at fun o e=>hk it (by walk_at "s") o e,st.2.at fun o e=>hk l (by walk_at "s") o e⟩
 item:=fun i s Q E hi st hQ=>by
  refine m4 st.1 st.2 (x:=items[i]) (by simp[hi]) fun h' hit' hs'=>?_;exact hQ _ h' s.toks (by simp[hi]) ⟨hit',st.2.extBut hs'.extBut hne⟩ hs'
 done:=fun s Q E st hE=>oM hh st.1 st.2 (by walk_at "s") hE
variable{items:Array Value}
theorem qH{l:Addr}(hL:s.heap.IsTuple l items)(h:∀ h',IsEnum h' (s.heap.objs.size+1) s.heap.objs.size 0 .none→h'.IsTupleIter s.heap.objs.size l 0→(∀ b o,s.heap.get? b=some o→h'.get? b=some o)→Q (.ref (s.heap.objs.size+1)) {s with heap:=h'}):
  wpAny (model prog w) A (call (.type "enumerate") [.ref l]) Q E s:=by
 revert hL;refine af fun q t=>?_;obtain⟨c,dct,dt,sl⟩:=q;obtain⟨hl,hc,n,hd⟩:=t
 replace hc:c=.type "tuple":=hc
 replace hd:dt=.seq items n:=hd
 subst hc hd
 refine callType_new F.called_enumerate (by decide) (F.typeCall_enumerate_1 _) (F.newCall_enumerate_1 _) (fun obj=>F.args_object_init_2 obj _) F.entry_enumerate_new
  (pQ l items n dct sl) ⟨hl,?_⟩
 have hz:(s.heap.push {cls:=.type "tuple_iterator",data:=.fields #[.ref l,.int 0 0]}).objs.size=s.heap.objs.size+1:=Heap.size_push ..;show _∧_;rw[hz]
 have he:IsEnum ((s.heap.push {cls:=.type "tuple_iterator",data:=.fields #[.ref l,.int 0 0]}).push
   {cls:=.type "enumerate",data:=.fields #[.none,.bool false,.ref s.heap.objs.size,rawInt 0,.none,.none]}) (s.heap.objs.size+1) s.heap.objs.size 0 .none:=by
  have:=Heap.get?_push_size (s.heap.push {cls:=.type "tuple_iterator",data:=.fields #[.ref l,.int 0 0]})
   (o:={cls:=.type "enumerate",data:=.fields #[.none,.bool false,.ref s.heap.objs.size,rawInt 0,.none,.none]}) rfl
  rw[hz] at this;exact this
 exact⟨⟨_,he,rfl⟩,h _ he ⟨_,Heap.get?_push_of_some _ (Heap.get?_push_size _ rfl),rfl,rfl⟩ fun b o x=>Heap.get?_push_of_some _ (Heap.get?_push_of_some _ x)⟩
theorem wb(hn:hd.h=true):It prog w K d hd (.Tuple elts kk p) [.tup l] (fun vs=>call (.type "enumerate") vs) (gH 0 l) H:=by
 intro A σ Z s vs Q E hA S hv hQ;obtain⟨u,rfl,hu⟩:=hv.inv1;obtain⟨a,vs,rfl,f,hl,hvs⟩:=hu;refine ab (fun o ho J=>?_) (id hl);have halt:(a:Nat) < s.heap.objs.size:=Heap.lt_size ho;refine qH hl fun h' he hit hk=>wpAny_pyIter_enum he (hQ _ _ ?_)
 have hef:(s.heap.objs.size+1)∉[s.heap.objs.size,a]:=fun hm=>by
  rcases List.mem_cons.mp hm with e | hm
  ·exact Nat.succ_ne_self _ e
  ·exact Nat.ne_of_gt (Nat.lt_succ_of_lt halt) (List.mem_singleton.mp hm)
 have hh:A.in1.handled=none:=hA.none hn
 refine⟨_,[s.heap.objs.size+1,s.heap.objs.size],[s.heap.objs.size+1,s.heap.objs.size,a],_,_,rfl,.of ⟨fun b o e J J J=>hk b o e,fun b o e=>⟨o,hk b o e,fun h=>h⟩,⟨[],by walk_at "s",fun J h=>nomatch h⟩,rfl,rfl⟩,hk,
  (Wk.of_T (WalksT.enumerateD (o8 hh s.heap.objs.size a (Nat.ne_of_lt halt) vs) (s.heap.objs.size+1) (Nat.succ_ne_self _) hef List.mem_cons_self) (fun i h st b hb=>?_) (fun i h st b hb=>?_)).cast ?_,
  ⟨⟨_,he⟩,hit,hl.at fun o e=>hk a o e⟩,fun b hb=>?_,fun b hb=>?_,fun i x y h h' σ' Z' hx hP hf hs he8 h8=>?_⟩
 ·revert st;refine am fun q t=>?_;revert q;refine af fun old e1=>?_;revert t;refine am fun q t=>?_;revert q;refine ab fun o2 e2 J=>?_;revert t;refine ab fun o3 e3 J=>?_
  rcases List.mem_cons.mp hb with rfl | hb
  ·exact⟨_,e1⟩
  ·rcases List.mem_cons.mp hb with rfl | hb
   ·exact⟨_,e2⟩
   ·exact⟨_,(List.mem_singleton.mp hb)▸e3⟩
 ·intro o' eo
  revert st;refine am fun q t=>?_;revert q;refine af fun old e1=>?_;revert t;refine am fun q J=>?_;revert q;refine fo fun o2 e2 J d2=>?_
  rcases List.mem_cons.mp hb with rfl | hb
  ·rw[(show h.get? _=_ from e1)] at eo;exists eo;rfl
  ·rw[List.mem_singleton.mp hb,e2] at eo;exists eo;unfold cT;rw[d2]
 ·rw[dg,hvs.length];simp
 ·rcases List.mem_cons.mp hb with rfl | hb
  ·exact⟨Heap.get?_none_of_le (Nat.le_succ _),Nat.le_succ _⟩
  ·rw[List.mem_singleton.mp hb];exact⟨Heap.get?_none_of_le (Nat.le_refl _),Nat.le_refl _⟩
 ·rcases List.mem_cons.mp hb with rfl | hb
  ·exact .inl List.mem_cons_self
  ·rcases List.mem_cons.mp hb with rfl | hb
   ·exact .inl (List.mem_cons_of_mem _ List.mem_cons_self)
   ·exact .inr ((List.mem_singleton.mp hb)▸⟨f,o,ho⟩)
 ·revert hP;refine aV fun T vals q t=>?_;obtain rfl:=q;revert t;refine am fun q t=>?_;revert q;refine aV fun t z hz t=>?_;obtain rfl:=t;revert t;refine am fun hT hI=>?_
  rw[hF] at hx;refine ab (fun u hu t=>?_) (Option.map_eq_some_iff.mp hx);obtain rfl:=t;refine ab (fun v e1 hv=>?_) (ak.get (ak.tr hf hs l hvs) hu);have e2:vs[i]? =some v:=by rw[←Array.getElem?_toList];exact e1
  rw[hz] at e2;exists e2;refine mE hT hI he8 h8 (ak.two ?_ hv);exact⟨t,by walk_at "s"⟩
variable{kx:X→Hp→Prop}
noncomputable def FN:V→Option Bool
 | .none=>some true
 | .tup _ | .lst _ | .ob _ | .str _ | .dct _ _=>some false
 | _=>Option.none
variable{b:Bool}
theorem dR(hb:FN u=some b)(h:k (.bool (!b)) H):Pr prog w K d hd [u,.none] (kL .IsNot) H k kx:=by
 refine az fun A σ Z s x y Q E hA S h1 h2 hQ hE=>?_;subst h2;have fin:Q (.bool (!b)) s:=hQ _ s σ (.bool (!b)) H (Go.refl ..) S VR.bool h;show wpAny _ A (compareOp .IsNot x .none) Q E s;cases u with
 | none=>subst h1;exists hb;exact wpAny_isNot_self (by rfl) fin
 | tup l=>obtain⟨a,vs,rfl,_⟩:=h1;exists hb;exact wpAny_isNot_other (by rfl) (fun e=>nomatch e) fin
 | lst l=>obtain⟨a,vs,rfl,_⟩:=h1;exists hb;exact wpAny_isNot_other (by rfl) (fun e=>nomatch e) fin
 | ob r=>obtain⟨a,rfl,_⟩:=h1;exists hb;exact wpAny_isNot_other (by rfl) (fun e=>nomatch e) fin
 | str x=>revert h1;refine af fun t t=>?_;obtain rfl:=t;exists hb;exact wpAny_isNot_other (by rfl) (fun e=>nomatch e) fin
 | dct ks l=>obtain⟨a,vs,rfl,_⟩:=h1;exists hb;exact wpAny_isNot_other (by rfl) (fun e=>nomatch e) fin
 | _=>exists hb
theorem lj(h:kb false H):Tr prog w K d hd .none H kb kx:=by
 intro A σ Z s v Q E hA S hv hQ hE;subst hv;exact fun Γ p hΓ=>hQ false s σ H (Go.refl ..) S h
theorem rx{a:Bool}(h:k (.bool (a==b)) H):Pr prog w K d hd [.bool a,.bool b] (kL .Is) H k kx:=by
 refine az fun A σ Z s x y Q E hA S h1 h2 hQ hE=>?_;subst h1 h2;have fin:Q (.bool (a==b)) s:=hQ _ s σ (.bool (a==b)) H (Go.refl ..) S VR.bool h;show wpAny _ A (compareOp .Is (.bool a) (.bool b)) Q E s;cases a <;> exists b
 ·exact wpAny_is_self (by rfl) fin
 ·exact wpAny_is_other (by rfl) (fun e=>nomatch e) fin
 ·exact wpAny_is_other (by rfl) (fun e=>nomatch e) fin
 ·exact wpAny_is_self (by rfl) fin
mutual
inductive du (H:Hp) (n:Nat):V→V→Prop
 | none:du H n .none .none
 | bool {b:Bool}:du H n (.bool b) (.bool b)
 | int {i:Int}:du H n (.int i) (.int i)
 | str {s:Str}:du H n (.str s) (.str s)
 | bi {s:String}:du H n (.bi s) (.bi s)
 | ty {s:String}:du H n (.ty s) (.ty s)
 | gl {a:Nat}:du H n (.gl a) (.gl a)
 | tup {l l':List V}:aM H n l l'→du H n (.tup l) (.tup l')
 | lst {l l':List V}:aM H n l l'→du H n (.lst l) (.lst l')
 | dct {ks:List Str} {l l':List V}:aM H n l l'→du H n (.dct ks l) (.dct ks l')
 | fin {C:Nat} {ks:List Str} {l l':List V}:aM H n l l'→du H n (.fin C ks l) (.fin C ks l')
 | thg {ks:List Str} {l l':List V}:aM H n l l'→du H n (.thg ks l) (.thg ks l')
 | bm {id:String} {x x':V}:du H n x x'→du H n (.bm id x) (.bm id x')
 | clo {fd:FuncData} {ns:List Str} {l l':List V}:aM H n l l'→du H n (.clo fd ns l) (.clo fd ns l')
 | exc {c:String} {l l':List V}:aM H n l l'→du H n (.exc c l) (.exc c l')
 | old {r:Nat}:r < n→du H n (.ob r) (.ob r)
 | oldi {C r:Nat}:r < n→du H n (.ins C r) (.ins C r)
 | ol {r:Nat} {l l':List V}:n≤r→H[r]? =some (.l l)→aM H n l l'→du H n (.ob r) (.lst l')
 | od {r:Nat} {ks:List Str} {l l':List V}:n≤r→H[r]? =some (.d ks l)→aM H n l l'→du H n (.ob r) (.dct ks l')
 | oi {C r:Nat} {ks:List Str} {l l':List V}:n≤r→H[r]? =some (.n ks l)→aM H n l l'→du H n (.ins C r) (.fin C ks l')
 | of {r r2:Nat} {ks:List Str} {l l':List V}:n≤r→n≤r2→H[r]? =some (.f (some r2))→H[r2]? =some (.n ks l)→aM H n l l'→du H n (.ob r) (.thg ks l')
inductive aM (H:Hp) (n:Nat):List V→List V→Prop
 | nil:aM H n [] []
 | cons {x x':V} {l l':List V}:du H n x x'→aM H n l l'→aM H n (x::l) (x'::l')
end
inductive kJ (H:Hp) (n:Nat):Ob→Ob→Prop
 | l {l l':List V}:aM H n l l'→kJ H n (.l l) (.l l')
 | d {ks:List Str} {l l':List V}:aM H n l l'→kJ H n (.d ks l) (.d ks l')
 | n {ks:List Str} {l l':List V}:aM H n l l'→kJ H n (.n ks l) (.n ks l')
 | f {r:Nat}:r < n→kJ H n (.f (some r)) (.f (some r))
 | f0:kJ H n (.f none) (.f none)
inductive jG (H:Hp) (n:Nat):List Ob→List Ob→Prop
 | nil:jG H n [] []
 | cons {x x':Ob} {l l':List Ob}:kJ H n x x'→jG H n l l'→jG H n (x::l) (x'::l')
variable{l l':List Ob}
theorem jG.length(h:jG H n l l'):l'.length=l.length:=by induction h with | nil=>rfl | cons _ _ ih=>simp[ih]
theorem jG.get(h:jG H n l l'):∀ (r:Nat) (x':Ob),l'[r]? =some x'→∃ x,l[r]? =some x∧kJ H n x x':=by
 induction h with
 | nil=>intro r x' e;simp at e
 | cons h1 _ ih=>
  intro r x' e;cases r with
  | zero=>simp at e;subst e;exact⟨_,rfl,h1⟩
  | succ r=>simp at e;refine ab (fun x e' q=>?_) (ih r x' e);exact⟨x,by simpa using e',q⟩
section
variable{K:Frag}{P:Params}{A:Around}{σ τ Z:List Addr}{H H1:Hp}{s:Shared}
theorem St.last(S:St K P A (σ++τ) Z H s)(e:(σ++τ)[r]? =some a)(h:σ.length≤r):Fz σ Z a:=by
 have hm:=List.mem_of_getElem? e;refine⟨S.ks a hm,fun q=>?_,S.apart a hm⟩;obtain⟨i,hi,ei⟩:=List.getElem_of_mem q;obtain⟨h1,h2⟩:=List.getElem?_eq_some_iff.mp e;have hi':i < (σ++τ).length:=by rw[List.length_append];omega
 have e3:(σ++τ)[i]=a:=by rw[List.getElem_append_left hi];exact ei
 have:=(List.getElem_inj S.nd).mp (e3.trans h2.symm);omega
theorem Fz.cutL(f:Fz (σ++τ) Z a):Fz σ Z a:=⟨f.lo,fun m=>f.ns (List.mem_append_left _ m),f.nz⟩
theorem St.lay(S:St K P A (σ++τ) Z H s){ob:Ob}(ea:(σ++τ)[r]? =some a)(hr:H[r]? =some ob):OR P s.heap (σ++τ) Z ob a:=by
 refine ab (fun b e1 q=>?_) (S.hr _ _ hr);rw[ea] at e1;exact Option.some.inj e1▸q
theorem vn(hr:r < σ.length)(h:(σ++τ)[r]? =some a):σ[r]? =some a:=(List.getElem?_append_left hr).symm.trans h
variable{l l':List V}
theorem aM.vrs(S:St K P A (σ++τ) Z H s)(h:aM H σ.length l l')(q:ak P s.heap (σ++τ) Z l vs):ak P s.heap σ Z l' vs:=by
 revert q
 generalize vs=ws
 revert ws
 apply aM.rec (motive_1:=fun x x' J=>∀ v,VR P s.heap (σ++τ) Z x v→VR P s.heap σ Z x' v) (motive_2:=fun l l' J=>∀ vs,ak P s.heap (σ++τ) Z l vs→ak P s.heap σ Z l' vs) (t:=h)
 case tup=>rintro _ _ _ ih _ ⟨a,vs,e,f,r,hl⟩;exact⟨a,vs,e,f.cutL,r,ih _ hl⟩
 case lst=>rintro _ _ _ ih _ ⟨a,vs,e,f,r,hl⟩;exact⟨a,vs,e,f.cutL,r,ih _ hl⟩
 case dct=>rintro _ _ _ _ ih _ ⟨a,vs,e,f,r,hl⟩;exact⟨a,vs,e,f.cutL,r,ih _ hl⟩
 case fin=>rintro _ _ _ _ _ ih _ ⟨a,d,vs,o,e,f,f2,ho,hi,hne,r,hl⟩;exact⟨a,d,vs,o,e,f.cutL,f2.cutL,ho,hi,hne,r,ih _ hl⟩
 case thg=>rintro _ _ _ _ ih _ ⟨a,d,vs,o,fd,e,f,f2,ho,h1,h2,h3,r,hl⟩;exact⟨a,d,vs,o,fd,e,f.cutL,f2.cutL,ho,h1,h2,h3,r,ih _ hl⟩
 case bm=>rintro _ _ _ _ ih _ ⟨a,y,e,f,ho,hx⟩;exact⟨a,y,e,f.cutL,ho,ih _ hx⟩
 case clo=>
  rintro _ _ _ _ _ ih _ ⟨a,o,fd,cs,vs,e,f,ho,hc,hd,hfd,h0,hcl,hn1,hn2,hce,⟨c,oc,ws,t,e1,f1,r1,r2,r3⟩,hl⟩;exact⟨a,o,fd,cs,vs,e,f.cutL,ho,hc,hd,hfd,h0,hcl,hn1,hn2,fun i c x h1 h2=>⟨(hce i c x h1 h2).1.cutL,(hce i c x h1 h2).2⟩,⟨c,oc,ws,t,e1,f1.cutL,r1,r2,r3⟩,ih _ hl⟩
 case exc=>rintro _ _ _ _ ih _ ⟨a,o,fs,t,vs,e,f,ho,hc,hd,h0,ft,r,hl⟩;exact⟨a,o,fs,t,vs,e,f.cutL,ho,hc,hd,h0,ft.cutL,r,ih _ hl⟩
 case old=>rintro _ hr _ ⟨a,e,h⟩;exact⟨a,e,vn hr h⟩
 case oldi=>rintro _ _ hr _ ⟨a,d,o,e,f,ho,hi,hne,h⟩;exact⟨a,d,o,e,f.cutL,ho,hi,hne,vn hr h⟩
 case ol=>rintro _ _ _ hn hr _ ih _ ⟨a,e,ea⟩;obtain⟨vs,hp,hl⟩:=S.lay ea hr;exact⟨a,vs,e,S.last ea hn,hp,ih _ hl⟩
 case od=>rintro _ _ _ _ hn hr _ ih _ ⟨a,e,ea⟩;obtain⟨vs,hp,hl⟩:=S.lay ea hr;exact⟨a,vs,e,S.last ea hn,hp,ih _ hl⟩
 case oi=>rintro _ _ _ _ _ hn hr _ ih _ ⟨a,d,o,e,f,ho,hi,hne,ea⟩;obtain⟨vs,hp,hl⟩:=S.lay ea hr;exact⟨a,d,vs,o,e,f.cutL,S.last ea hn,ho,hi,hne,hp,ih _ hl⟩
 case of=>
  rintro _ _ _ _ _ hn hn2 hr hr2 _ ih _ ⟨a,e,ea⟩;obtain⟨o,fd,d,ho,h1,h2,h3,h4⟩:=S.lay ea hr;obtain⟨vs,hp,hl⟩:=S.lay h4 hr2;exact⟨a,d,vs,o,fd,e,S.last ea hn,S.last h4 hn2,ho,h1,h3,h2,hp,ih _ hl⟩
 case cons=>rintro _ _ _ _ _ _ ih1 ih2 _ ⟨v,r,e,hx,hr⟩;exact⟨v,r,e,ih1 _ hx,ih2 _ hr⟩
 all_goals intros;assumption
theorem du.vr(S:St K P A (σ++τ) Z H s){x':V}(h:du H σ.length x x')(q:VR P s.heap (σ++τ) Z x v):VR P s.heap σ Z x' v:=by
 refine ee (fun J J e h J=>?_) (aM.vrs S (.cons h .nil) (ak.one q));exact(List.cons.inj e).1▸h
theorem kJ.or(S:St K P A (σ++τ) Z H s){x x':Ob}(h:kJ H σ.length x x')(q:OR P s.heap (σ++τ) Z x a):OR P s.heap σ Z x' a:=by
 cases h with
 | l h=>obtain⟨vs,e,q⟩:=q;exact⟨vs,e,aM.vrs S h q⟩
 | d h=>obtain⟨vs,e,q⟩:=q;exact⟨vs,e,aM.vrs S h q⟩
 | n h=>obtain⟨vs,e,q⟩:=q;exact⟨vs,e,aM.vrs S h q⟩
 | f h=>obtain⟨o,fd,d,e,h1,h2,h3,h4⟩:=q;exact⟨o,fd,d,e,h1,h2,h3,by rw[List.getElem?_append_left h] at h4;exact h4⟩
 | f0=>exact q
theorem St.freeze(S:St K P A (σ++τ) Z H s)(h:jG H σ.length (H.take σ.length) H1):St K P A σ Z H1 s:=by
 have sub:∀ a∈σ,a∈σ++τ:=fun a h=>List.mem_append_left _ h;have hl:σ.length≤H.length:=by rw[←S.len,List.length_append];omega
 refine⟨S.kin,S.kb,S.bs,fun a h=>S.ks a (sub a h),S.kz,S.zd,by rw[h.length,List.length_take];omega,(List.nodup_append.mp S.nd).1,fun a h=>S.apart a (sub a h),fun r x' e=>?_,S.gens,S.fr,S.tb.tr (fun a o f e=>⟨e,f.lo,fun m=>f.ns (sub a m),f.nz⟩) fun J e=>e,S.hx.tr rfl fun a o f e=>⟨e,f.lo,fun m=>f.ns (sub a m),f.nz⟩⟩;refine ab (fun x e1 q=>?_) (h.get r x' e)
 have hr:r < σ.length:=by
  have:=(List.getElem?_eq_some_iff.mp e1).1;rw[List.length_take] at this;omega
 rw[List.getElem?_take_of_lt hr] at e1;refine ab (fun a e2 q2=>?_) (S.hr r x e1);exact⟨a,by rw[List.getElem?_append_left hr] at e2;exact e2,q.or S q2⟩
end
variable{ρ:List (Str × V)}{kx:X→Hp→Prop}
noncomputable def DN(n:Nat)(k:V→Hp→Prop)(u:V)(H':Hp):Prop:=∃ u' H1,du H' n u u'∧jG H' n (H'.take n) H1∧k u' H1
theorem Go.freeze{τ X:List Addr}(g:Go Z σ X s (σ++τ) s'):Go Z σ X s σ s':=⟨g.up,g.dom,⟨[],by walk_at "s",fun J h=>nomatch h⟩,g.os,g.gens⟩
theorem xR{X:List Addr}{H':Hp}(S:St K P A σ Z H s)(g:Go Z σ X s σ' s')(S':St K P A σ' Z H' s')(hv:VR P s'.heap σ' Z u v)(hk:DN H.length k u H')(hQ:∀ u' H1,Go Z σ X s σ s'→St K P A σ Z H1 s'→VR P s'.heap σ Z u' v→k u' H1→Q v s'):Q v s':=by
 refine ab (fun τ q J=>?_) (id g.sub);obtain rfl:=q
 revert hk;refine ee fun u' H1 h1 h2 h3=>?_
 rw[←S.len] at h1 h2;exact hQ u' H1 g.freeze (S'.freeze h2) (h1.vr S' hv) h3
theorem fH(h:Pr prog w K d hd xs f H (DN H.length k) kx):Pr prog w K d hd xs f H k kx:=by
 intro A σ Z s vs Q E hA S hv hQ hE;exact h A σ Z s vs Q E hA S hv (fun v s' σ' x H' g' S' hx hk=>xR S g' S' hx hk fun u' H1 g S1 hu hk=>hQ v s' σ u' H1 g S1 hu hk) hE
theorem pY:∀ {es:List DictEntry} {ks:List Str} {vs:List Value},lr es ks vs→Pairs (strKind prog w) es (ks.zip vs)
 | [],[],[],_=>.nil
 | e::es,k::ks,v::vs,⟨h1,h2,h3⟩=>.cons h1 h2 (pY h3)
theorem eK:∀ {es:List DictEntry} {ks:List Str} {vs:List Value},lr es ks vs→ks.length=vs.length
 | [],[],[],_=>rfl
 | e::es,k::ks,v::vs,⟨_,_,h3⟩=>by rw[List.length_cons,List.length_cons,eK h3]
variable{kvs:List (Str × Value)}
theorem wA{es:List DictEntry}(h:Pairs (strKind prog w) es kvs):lr es (kvs.map (·.1)) (kvs.map (·.2)):=by
 induction h with
 | nil=>trivial
 | cons h1 h2 _ ih=>exact⟨h1,h2,ih⟩
theorem El{P:List α→List β→Prop}(n:P [] [])(c:∀ a l b r,P l r→P (a::l) (b::r))(l:List α):∀ r,l.length=r.length→P l r:=by
 induction l with
 | nil=>intro r h;cases r with
  | nil=>exact n
  | cons=>exact(Nat.succ_ne_zero _ h.symm).elim
 | cons a l ih=>intro r h;cases r with
  | nil=>exact(Nat.succ_ne_zero _ h).elim
  | cons b r=>exact c a l b r (ih r (Nat.succ.inj h))
variable{ks:List Str}
theorem ij(h:ks.length=vs.length):(ks.zip vs).map (·.1)=ks:=List.map_fst_zip (Nat.le_of_eq h)
theorem tq(h:ks.length=vs.length):(ks.zip vs).map (·.2)=vs:=List.map_snd_zip (Nat.le_of_eq h.symm)
theorem cZ.of(x:cZ w.params h a ks vs):h.DictOf (strKind prog w) a (ks.zip vs):=by
 obtain⟨o,es,n,e,hx,hd,hk,hp,hn⟩:=x;exact⟨o,es,n,e,hx,hd,hk,pY hp,by rw[ij (eK hp)];exact hn⟩
theorem cZ.to(x:h.DictOf (strKind prog w) a kvs):cZ w.params h a (kvs.map (·.1)) (kvs.map (·.2)):=by
 revert x;refine ER fun o es n e hx hd hk t=>?_;revert t;refine am fun hp hn=>?_
 exact⟨o,es,n,e,hx,hd,hk,wA hp,hn⟩
theorem gY:∀ {ks:List Str} {vs:List Value} {us:List V} {P:Params} {h:Heap} {σ Z:List Addr} {k:Str} {u:V},ak P h σ Z us vs→(ks.zip us).lookup k=some u→∃ v,valueAt (ks.zip vs) k=some v∧VR P h σ Z u v
 | [],_,_,_,_,_,_,_,_,_,e=>by simp at e
 | _::_,_,[],_,_,_,_,_,_,_,e=>by simp at e
 | k0::ks,vs,u0::us,P,h,σ,Z,k,u,q,e=>by
  revert q;refine aV fun v r q t=>?_;obtain rfl:=q;revert t;refine am fun hx hr=>?_
  rw[List.zip_cons_cons,List.lookup_cons] at e;cases hk:k==k0 with
  | true=>
   rw[hk] at e;exists e;have:k=k0:=eq_of_beq hk;subst this;exact⟨v,by simp[valueAt],hx⟩
  | false=>
   rw[hk] at e;refine ab (fun v' e' hv=>?_) (gY hr e);have hne:¬ k0=k:=fun e=>by rw[e] at hk;simp at hk
   refine⟨v',?_,hv⟩;rw[valueAt] at e' ⊢;rw[List.zip_cons_cons,List.find?_cons,decide_eq_false hne];exact e'
theorem jx:∀ {ks:List Str} {vs:List Value} {k:Str},k∉ks→valueAt (ks.zip vs) k=none
 | [],_,_,_=>rfl
 | _::_,[],_,_=>rfl
 | k0::ks,v::vs,k,h=>by
  have hne:¬ k0=k:=fun e=>h (e▸List.mem_cons_self);have ih:=jx (vs:=vs) fun q=>h (List.mem_cons_of_mem _ q);rw[valueAt] at ih ⊢;rw[List.zip_cons_cons,List.find?_cons,decide_eq_false hne];exact ih
theorem jy:∀ {ks:List Str} {vs:List Value} {k:Str},ks.length=vs.length→k∈ks→(valueAt (ks.zip vs) k).isSome=true
 | k0::ks,v::vs,k,hl,h=>by
  rw[valueAt];rw[List.zip_cons_cons,List.find?_cons]
  by_cases e:k0=k
  ·rw[decide_eq_true e];rfl
  ·rw[decide_eq_false e];rcases List.mem_cons.mp h with q | q
   ·exact absurd q.symm e
   ·exact jy (Nat.succ.inj hl) q
theorem k9(h:378≤a):(a==sysModules)=false:=by
 cases e:a==sysModules with
 | false=>rfl
 | true=>have:a=sysModules:=eq_of_beq e;rw[this] at h;exact absurd h (by decide)
variable{ρ:ai}{kx:X→Hp→Prop}
variable{l:List V}{x:Str}
theorem ie(hu:(ks.zip l).lookup x=some u)(h:k u H):Pr prog w K d hd [.dct ks l,.str x] gI H k kx:=by
 refine az fun A σ Z s a b Q E hA S h1 h2 hQ hE=>?_;obtain⟨a,vs,rfl,f,hd,hvs⟩:=h1
 revert h2;refine af fun t t=>?_;obtain rfl:=t
 refine ab (fun v e hv=>?_) (gY hvs hu);exact wpAny_getItem_of (knd:=strKind prog w) (k:=x) (by show(x==x)=true;simp) hd.of.mapOf e (hQ v _ σ u H (Go.tok ..) (S.tok _) hv h)
theorem nL(hr:H[r]? =some (.d ks l))(hu:(ks.zip l).lookup x=some u)(h:k u H):Pr prog w K d hd [.ob r,.str x] gI H k kx:=by
 refine az fun A σ Z s a b Q E hA S h1 h2 hQ hE=>?_;obtain⟨a,rfl,ea⟩:=h1
 revert h2;refine af fun t t=>?_;obtain rfl:=t
 obtain⟨vs,hd,hvs⟩:=S.ob ea hr;refine ab (fun v e hv=>?_) (gY hvs hu);exact wpAny_getItem_of (knd:=strKind prog w) (k:=x) (by show(x==x)=true;simp) hd.of.mapOf e (hQ v _ σ u H (Go.tok ..) (S.tok _) hv h)
noncomputable def Ed(prog:Program)(w:World)(K:Frag)(d:Nat)(hd:Hd)(env:Env)(ρ:List (Str × V))(t:Sem (List (Value × Value)))(H:Hp)(k:List Str→List V→Hp→Prop)(kx:X→Hp→Prop):Prop:=
 ∀ (A:Around) (σ Z:List Addr) (s:Shared) (Q:List (Value × Value)→Shared→Prop) (E:Value→Shared→Prop),cF A d hd→St K w.params A σ Z H s→FR w.params σ Z env ρ s.heap→
  (∀ vs s' σ' ks us H',Go Z σ [] s σ' s'→St K w.params A σ' Z H' s'→ks.length=vs.length→(∀ (i:Nat) x p,ks[i]? =some x→vs[i]? =some p→∃ t,p.1=.str x t)→ak w.params s'.heap σ' Z us (vs.map (·.2))→k ks us H'→Q vs s')→
  tu w K A Z σ s kx E→wpAny (model prog w) A t Q E s
noncomputable abbrev D7(x:Str)(y:V)(k:List Str→List V→Hp→Prop)(ks:List Str)(us:List V)(H:Hp):Prop:=k (x::ks) (y::us) H
noncomputable abbrev BW(prog:Program)(w:World)(K:Frag)(d:Nat)(hd:Hd)(env:Env)(ρ:ai)(t:Sem (List (Value × Value)))(x:Str)(k:List Str→List V→Hp→Prop)(kx:X→Hp→Prop)(y:V)(H:Hp):Prop:=Ed prog w K d hd env ρ t H (D7 x y k) kx
theorem z7{k:List Str→List V→Hp→Prop}(h:k [] [] H):Ed prog w K d hd env ρ (evalPairs []) H k kx:=by
 intro A σ Z s Q E hA S F hQ hE;exact evalPairs_nil (hQ [] s σ [] [] H (Go.refl ..) S rfl (fun i x p e=>by simp at e) ak.nil h)
theorem xz{k:List Str→List V→Hp→Prop}{a b:Sem Value}{rest:List (Sem Value × Sem Value)}(h:Ev prog w K d hd env ρ a H (fun u H1=>∃ x,u=.str x∧Ev prog w K d hd env ρ b H1 (BW prog w K d hd env ρ (evalPairs rest) x k kx) kx) kx):
  Ed prog w K d hd env ρ (evalPairs ((a,b)::rest)) H k kx:=by
 intro A σ Z s Q E hA S F hQ hE;refine evalPairs_cons (h A σ Z s _ _ hA S F (fun v1 s1 σ1 u H1 g1 S1 hu hk=>?_) hE)
 revert hk;refine ab fun x q hk=>?_;obtain rfl:=q
 revert hu;refine af fun t t=>?_;obtain rfl:=t
 refine hk A σ1 Z s1 _ _ hA S1 (F.go S g1) (fun v2 s2 σ2 y H2 g2 S2 hy hk2=>?_) (hE.go g1);refine hk2 A σ2 Z s2 _ _ hA S2 ((F.go S g1).go S1 g2) (fun vs s3 σ3 ks us H3 g3 S3 hl hks hus hk3=>?_) (hE.go (g1.trans g2));refine hQ _ s3 σ3 (x::ks) (y::us) H3 (g1.trans (g2.trans g3)) S3 (by simp[hl]) (fun i x' p e1 e2=>?_) ?_ hk3
 ·cases i with
  | zero=>simp at e1 e2;subst e1 e2;exact⟨t,rfl⟩
  | succ i=>simp at e1 e2;exact hks i x' p e1 e2
 ·exact⟨v2,_,rfl,VR.go g3 (fun J h=>nomatch h) _ hy,hus⟩
theorem qI{vs:List (Value × Value)}(hl:ks.length=vs.length)(h:∀ (i:Nat) x p,ks[i]? =some x→vs[i]? =some p→∃ t,p.1=.str x t):Carries (strKind prog w) vs (ks.zip (vs.map (·.2))):=by
 revert h
 refine El (P:=fun ks vs=>(∀ (i:Nat) x p,ks[i]? =some x→vs[i]? =some p→∃ t,p.1=.str x t)→Carries (strKind prog w) vs (ks.zip (vs.map (·.2)))) (fun J=>trivial) (fun x ks p vs ih h=>?_) ks vs hl;refine af (fun t e=>?_) (h 0 x p rfl rfl);exact⟨by rw[e];exact(by simp:(x==x)=true),rfl,ih fun i x' p' e1 e2=>h (i+1) x' p' e1 e2⟩
variable{keys:List (Option PySem.Expr)}{values:List PySem.Expr}
theorem xJ{pairs:List (Sem Value × Sem Value)}(hshape:(evalEachOpt keys env).zip ((evalEach values env).map fun v=>do let x←v;standAt pos;pure x)=pairs.map fun p=>(some p.1,p.2))(h0:pairs≠[])(hlen:pairs.length≤15)(h:Ed prog w K d hd env ρ (evalPairs pairs) (H++[.d [] []]) (fun ks us H'=>ks.Nodup∧ks.length≤1000∧H'[H.length]? =some (.d [] [])∧k (.ob H.length) (H'.set H.length (.d ks us))) kx):
  Ev prog w K d hd env ρ (eval (.Dict keys values pos) env) H k kx:=by
 intro A σ Z s Q E hA S F hQ hE;have g0:=Go.pushOb Z σ s {cls:=.type "dict",data:=.dict #[]} s.toks;have S0:St K w.params A (σ++[s.heap.objs.size]) Z (H++[.d [] []]) {s with heap:=s.heap.push {cls:=.type "dict",data:=.dict #[]}}:=S.newOb _ s.toks (ob:=.d [] []) ⟨[],cZ.to (prog:=prog) (Heap.DictOf.new s.heap),ak.nil⟩;refine wpAny_Dict_pairs (knd:=strKind prog w) hshape h0 hlen (h A _ Z _ _ _ hA S0 (F.go S g0) (fun vs s1 σ1 ks us H1 g1 S1 hl hks hus hk=>?_) (hE.go g0))
 revert hk;refine fY fun hnd hn1 hr hk=>?_
 have ea:σ1[H.length]? =some s.heap.objs.size:=g1.sig _ _ S.newAt;obtain⟨ws,hd0,hws⟩:=S1.ob ea hr;have hws':ws=[]:=by exact hws
 subst hws';refine⟨ks.zip (vs.map (·.2)),qI hl hks,hd0.of,fun h' hd1 hs=>?_⟩;have hm:merged [] (ks.zip (vs.map (·.2)))=ks.zip (vs.map (·.2)):=merged_nil_of_nodup _ (by rw[ij (by simpa using hl)];exact hnd);rw[hm] at hd1
 have hdd:∀ o,s1.heap.get? s.heap.objs.size=some o→∃ o',h'.get? s.heap.objs.size=some o'∧(cT o=true→cT o'=true):=fun o e=>by
  revert hd1;refine Ba fun o' es ep e' J hd' J=>?_
  exact⟨o',e',fun J=>lT hd'⟩
 have g2:=Go.setOb (Z:=Z) S1 (List.mem_of_getElem? ea) (s1.toks+vs.length) hs hdd;have hd2:=cZ.to hd1;rw[ij (by simpa using hl),tq (by simpa using hl)] at hd2;refine hQ _ _ σ1 (.ob H.length) _ (g0.trans (g1.trans g2)) (S1.setOb (ob:=.d ks us) ea (s1.toks+vs.length) hs hdd ⟨vs.map (·.2),hd2,ak.go g2 (fun J h=>nomatch h) us hus⟩) ?_ hk;exact⟨_,rfl,ea⟩
variable{kx:X→Hp→Prop}{kxa:X→ai→Hp→Prop}
noncomputable def sI:List Value→Sem Value
 | [o,i,v]=>setItem o i v >>= fun J=>pure .none
 | _=>unsupported ""
variable{x z:V}
theorem ak.inv3(q:ak P h σ Z [x,y,z] vs):∃ a b c,vs=[a,b,c]∧VR P h σ Z x a∧VR P h σ Z y b∧VR P h σ Z z c:=by
 revert q;refine aV fun v r q t=>?_;obtain rfl:=q;revert t;refine am fun hx hl=>?_;obtain⟨a,b,rfl,h1,h2⟩:=hl.inv2;exact⟨v,a,b,rfl,hx,h1,h2⟩
variable{c:Value}
theorem ak.three{a b:Value}(hx:VR P h σ Z x a)(hy:VR P h σ Z y b)(hz:VR P h σ Z z c):ak P h σ Z [x,y,z] [a,b,c]:=by
 exact⟨a,[b,c],rfl,hx,ak.two hy hz⟩
variable{Q:Unit→Shared→Prop}
theorem o6{M:Model}{m:Sem Unit}{hl l:List Value}(t:wpAny M A (m >>= fun J=>pure Value.none) (fun J s'=>Q () s') E s):
  wpAny M A (standAt pos >>= fun J=>holding hl m >>= fun J=>release l []) Q E s:=by
 intro Γ p hΓ;have t:=t Γ;simp only[Sem.wp_bind',Sem.wp_pure',Sem.wp_cmd_standAt,Sem.wp_holding,Sem.wp_release] at t ⊢;exact t _ hΓ
theorem u5{i:PySem.Expr}{Xw:List Addr}(h:Ev prog w K d hd env ρ (eval o env) H (fun uo H1=>Ev prog w K d hd env ρ (eval i env) H1 (fun ui H2=>Pr prog w K d hd [uo,ui,u] sI H2 (BU ρ ka) (nc ρ kxa)) (nc ρ kxa)) (nc ρ kxa)):
  As prog w K d hd env Xw ρ (assign (.Subscript o i pos) env) u H ka kxa:=by
 intro A σ Z s v Q E hA S F hv hQ hE;rw[assign_Subscript];refine wpAny_bind (wpAny_holding (h A σ Z s _ _ hA S F (fun ov s1 σ1 uo H1 g1 S1 ho hk=>?_) (hE.to S F)));have F1:=F.go S g1;refine wpAny_bind (wpAny_holding (hk A σ1 Z s1 _ _ hA S1 F1 (fun iv s2 σ2 ui H2 g2 S2 hi hk2=>?_) (fun e s' σ' x H' g' S' hx hk=>hE e s' σ' x ρ H' ((g1.trans g').wide fun J h=>nomatch h) S' (F1.go S1 g') ((hx.fr F1 S1 g').old g1) hk)));have F2:=F1.go S1 g2;have g12:=g1.trans g2
 have:=hk2 A σ2 Z s2 [ov,iv,v] (fun J s'=>Q () s') E hA S2 (ak.three (VR.go g2 (fun J h=>nomatch h) _ ho) hi (VR.go g12 (fun J h=>nomatch h) _ hv)) (fun J s' σ' J H' g' S' J hk=>hQ s' σ' ρ H' ((g12.trans g').wide fun J h=>nomatch h) S' (F2.go S2 g') hk)
  (fun e s' σ' x H' g' S' hx hk=>hE e s' σ' x ρ H' ((g12.trans g').wide fun J h=>nomatch h) S' (F2.go S2 g') ((hx.fr F2 S2 g').old g12) hk)
 exact o6 this
variable{i:Int}
theorem m7{l:Addr}{t:Tok}(hl:s.heap.PlainList l items)(h0:0≤i)(hfit:i < 2 ^ 63)(hn:i < items.size)(hQ:∀ h',h'.PlainList l (items.setIfInBounds i.toNat v)→Heap.SameBut l s.heap h'→Q () {s with heap:=h'}):wpAny (model prog w) A (setItem (.ref l) (.int i t) v) Q E s:=by
 refine af (fun n ho=>?_) (id hl);have hT:=hl.isList.typeIs;unfold setItem;refine wpAny_holding (wpAny_bind (wpAny_sequenceKey hT (by decide) (wpAny_bind (wpAny_callSpecial?_slot (name:=Str.ofString "__setitem__") hT slot_list_setitem (wpAny_call_entry slot_list_setitem hT entry_list_setitem ?_ (args_list_setitem _ _ _))))));refine wpAny_bind (m:=Builtin.List.listSubscript? (.int i t)) (wpAny_listSubscript_int (fitsIndex_of h0 hfit) ?_);refine af (fun j t=>?_) (Int.eq_ofNat_of_zero_le h0);obtain rfl:=t;have hj:j < items.size:=by omega
 show wpAny _ _ ((seqItemAt l j >>= fun r=>pure (r.map (j, ·))) >>= _) _ _ s;refine wpAny_bind (wpAny_bind (wpAny_seqItemAt ho rfl (wpAny_pure ?_)));rw[Array.getElem?_eq_getElem hj];refine wpAny_bind (m:=setSeqItemAt l j v) (wpAny_setSeqItemAt ho rfl ?_);have fin:=hQ (s.heap.update l (Obj.mapSeq (·.setIfInBounds j v))) ⟨_,Heap.get?_update_self _ ho rfl⟩ (Heap.SameBut.update ..)
 first
  | exact wpAny_bind (wpAny_pure (wpAny_pure ⟨.none,rfl,wpAny_pure fin⟩))
  | exact wpAny_pure ⟨.none,rfl,wpAny_pure fin⟩
theorem uH(hr:H[r]? =some (.l l))(h0:0≤i)(h1:i < l.length)(hl:l.length≤1000)(h:k .none (H.set r (.l (l.set i.toNat u)))):Pr prog w K d hd [.ob r,.int i,u] sI H k kx:=by
 intro A σ Z s vs Q E hA S hv hQ hE;obtain⟨a,b,c,rfl,q1,q2,q3⟩:=hv.inv3;obtain⟨a,rfl,ea⟩:=q1
 revert q2;refine af fun t t=>?_;obtain rfl:=t
 obtain⟨ys,hpl,hys⟩:=S.ob ea hr;have hsz:(ys.size:Int)=l.length:=by rw[hys.length];simp
 show wpAny _ A (setItem (.ref a) (.int i t) c >>= fun J=>pure .none) Q E s;refine wpAny_bind (m7 hpl h0 (by omega) (by omega) fun h' hpl' hs=>wpAny_pure ?_)
 have hdd:∀ o,s.heap.get? a=some o→∃ o',h'.get? a=some o'∧(cT o=true→cT o'=true):=fun o e=>by
  revert hpl';refine af fun n e1=>?_
  revert hpl;refine af fun n2 e2=>?_
  rw[e2] at e;exists e;exact⟨_,e1,fun h=>by exists h⟩
 have g:=Go.setOb (Z:=Z) S (List.mem_of_getElem? ea) s.toks hs hdd;refine hQ .none _ σ .none _ g (S.setOb (ob:=.l (l.set i.toNat u)) ea s.toks hs hdd ⟨_,hpl',?_⟩) VR.none' h
 have setv:∀ {l:List V} {vs:List Value} {n:Nat},ak w.params h' σ Z l vs→ak w.params h' σ Z (l.set n u) (vs.set n c):=by
  intro l
  induction l with
  | nil=>intro vs n q;subst q;simpa using ak.nil
  | cons x r ih=>
   intro vs n q
   revert q;refine aV fun v r' q t=>?_;obtain rfl:=q;revert t;refine am fun hx hr=>?_
   cases n with
   | zero=>show ak _ _ _ _ (u::r) (c::r');exact⟨c,r',rfl,VR.go g (fun J h=>nomatch h) _ q3,hr⟩
   | succ n=>show ak _ _ _ _ (x::r.set n u) (v::r'.set n c);exact⟨v,_,rfl,hx,ih hr⟩
 have e2:(ys.setIfInBounds i.toNat c).toList=ys.toList.set i.toNat c:=by walk_at "s"
 rw[e2];exact setv (ak.go g (fun J h=>nomatch h) _ hys)
noncomputable def io:List Str→List V→Str→V→List Str × List V
 | k::ks,v::vs,x,u=>if k=x then (k::ks,u::vs) else ((k::(io ks vs x u).1),(v::(io ks vs x u).2))
 | _,_,x,u=>([x],[u])
variable{x:Str}
theorem mu{k:Str}{v:V}{vs:List V}:io (k::ks) (v::vs) x u=if k=x then (k::ks,u::vs) else ((k::(io ks vs x u).1),(v::(io ks vs x u).2)):=rfl
theorem iK{P:Params}{h:Heap}{σ Z:List Addr}{x:Str}{u:V}{v:Value}(hu:VR P h σ Z u v):∀ {ks:List Str} {us:List V} {vs:List Value},ks.length=vs.length→ks.Nodup→ak P h σ Z us vs→
  (stored (ks.zip vs) x v).map (·.1)=(io ks us x u).1∧ak P h σ Z (io ks us x u).2 ((stored (ks.zip vs) x v).map (·.2))
 | [],us,[]=>fun J J q=>by
  have e:us=[]:=by
   cases us with
   | nil=>rfl
   | cons a b=>revert q;refine aV fun J J e J=>?_;exists e
  subst e;exact⟨rfl,ak.one hu⟩
 | [],_,_::_=>fun hl=>nomatch hl
 | _::_,_,[]=>fun hl=>nomatch hl
 | k::ks,us,v0::vs=>fun hl hn q=>by
  cases us with
  | nil=>exists q
  | cons u0 us=>
   revert q;refine ee fun v' r e hx hr=>?_
   exists e;refine am (fun hn1 hn2=>?_) (List.nodup_cons.mp hn);have hl':=Nat.succ.inj hl
   by_cases hk:k=x
   ·subst hk;have e0:(vs.length=ks.length):=hl'.symm;have hnot:(ks.zip vs).map (fun kv=>if kv.1=k then (kv.1,v) else kv)=ks.zip vs:=map_store_of_not_mem _ _ _ (by rw[ij hl'];exact hn1)
    have e:stored ((k::ks).zip (v0::vs)) k v=(k,v)::ks.zip vs:=by
     rw[stored];rw[List.zip_cons_cons,if_pos (by walk_at "s"),List.map_cons,hnot];walk_at "s"
    rw[e];rw[mu];rw[if_pos rfl];refine⟨by rw[List.map_cons,ij hl'],?_⟩;rw[List.map_cons,tq hl'];exact⟨v,vs,rfl,hu,hr⟩
   ·obtain⟨i1,i2⟩:=iK hu hl' hn2 hr
    have e:stored ((k::ks).zip (v0::vs)) x v=(k,v0)::stored (ks.zip vs) x v:=by
     rw[stored,stored];rw[List.zip_cons_cons,List.any_cons];have:decide (k=x)=false:=decide_eq_false hk;rw[this,Bool.false_or];split
     ·rw[List.map_cons,if_neg hk]
     ·rfl
    rw[e];rw[mu];rw[if_neg hk];refine⟨by rw[List.map_cons,i1],?_⟩;show ak P h σ Z (u0::_) (v0::_);exact⟨v0,_,rfl,hx,i2⟩
theorem rz(hr:H[r]? =some (.d ks l))(hl:ks.length≤1000)(h:k .none (H.set r (.d (io ks l x u).1 (io ks l x u).2))):Pr prog w K d hd [.ob r,.str x,u] sI H k kx:=by
 intro A σ Z s vs Q E hA S hv hQ hE;obtain⟨a,b,c,rfl,q1,q2,q3⟩:=hv.inv3;obtain⟨a,rfl,ea⟩:=q1
 revert q2;refine af fun t t=>?_;obtain rfl:=t
 obtain⟨ws,hdr,hws⟩:=S.ob ea hr;obtain⟨o0,es0,n0,he0,hx0,hd0,hk0,hp0,hn0⟩:=id hdr;have hlen:=eK hp0;show wpAny _ A (setItem (.ref a) (.str x t) c >>= fun J=>pure .none) Q E s;refine wpAny_bind (wpAny_setItem_pairs (knd:=strKind prog w) (k:=x) (by show(x==x)=true;simp) hdr.of (fun h' hd1 hs=>wpAny_pure ?_) (by rw[List.length_zip];exact Nat.le_trans (Nat.min_le_left _ _) (Nat.le_trans hl (by decide))))
 have hdd:∀ o,s.heap.get? a=some o→∃ o',h'.get? a=some o'∧(cT o=true→cT o'=true):=fun o e=>by
  revert hd1;refine Ba fun o' es ep e' J hd' J=>?_
  exact⟨o',e',fun J=>lT hd'⟩
 have g:=Go.setOb (Z:=Z) S (List.mem_of_getElem? ea) (s.toks+1) hs hdd;have hd2:=cZ.to hd1;refine am (fun i1 i2=>?_) (iK (VR.go g (fun J h=>nomatch h) _ q3) hlen hn0 (ak.go g (fun J h=>nomatch h) _ hws) (x:=x));rw[i1] at hd2;exact hQ .none _ σ .none _ g (S.setOb (ob:=.d (io ks l x u).1 (io ks l x u).2) ea (s.toks+1) hs hdd ⟨_,hd2,i2⟩) VR.none' h
mutual
noncomputable def V.dat:V→PyData
 | .bool b=>.bool b
 | .int i=>.int i
 | .str s=>.str s
 | .lst l=>.list (bA l)
 | .tup l=>.tuple (bA l)
 | _=>.none
noncomputable def bA:List V→List PyData
 | []=>[]
 | x::l=>x.dat::bA l
end
mutual
noncomputable def V.isDat:V→Bool
 | .none | .bool _ | .int _=>true
 | .str s=>PyData.strOk s
 | .lst l | .tup l=>b9 l
 | _=>false
noncomputable def b9:List V→Bool
 | []=>true
 | x::l=>x.isDat&&b9 l
end
set_option maxHeartbeats 2000000 in
mutual
theorem V.reads{P:Params}{h:Heap}{σ Z:List Addr}:∀ (x:V) {v:Value},x.isDat=true→VR P h σ Z x v→∃ as,Reads h v x.dat as∧x.dat.canLay0=true
 | .none,_,_,q=>by subst q;exact⟨[],.none,rfl⟩
 | .bool b,_,_,q=>by subst q;exact⟨[],.bool b,rfl⟩
 | .int i,_,_,q=>by revert q;refine af fun t t=>?_;obtain rfl:=t;exact⟨[],.int i t,rfl⟩
 | .str s,_,hd,q=>by revert q;refine af fun t t=>?_;obtain rfl:=t;exact⟨[],.str s t,hd⟩
 | .lst l,_,hd,q=>by
  obtain⟨a,vs,rfl,f,⟨n,ho⟩,hl⟩:=q;refine ab (fun as r c=>?_) (ju l hd hl);exact⟨_,.list ho rfl rfl r,c⟩
 | .tup l,_,hd,q=>by
  obtain⟨a,vs,rfl,f,⟨o,ho,hc,n,hdd⟩,hl⟩:=q;refine ab (fun as r c=>?_) (ju l hd hl);exact⟨_,.tuple ho hc hdd r,c⟩
 | .bi _,_,hd,_ | .ty _,_,hd,_ | .gl _,_,hd,_ | .dct _ _,_,hd,_ | .ob _,_,hd,_ | .fin _ _ _,_,hd,_ | .thg _ _,_,hd,_ | .bm _ _,_,hd,_ | .slc _ _ _,_,hd,_ | .clo _ _ _,_,hd,_ | .ins _ _,_,hd,_ | .exc _ _,_,hd,_=>ft hd
theorem ju{P:Params}{h:Heap}{σ Z:List Addr}:∀ (l:List V) {vs:List Value},b9 l=true→ak P h σ Z l vs→∃ as,ReadsAll h vs (bA l) as∧PyData.canLayAll0 (bA l)=true
 | [],_,_,q=>by subst q;exact⟨[],.nil,rfl⟩
 | x::l,_,hd,q=>by
  revert q;refine aV fun v r q t=>?_;obtain rfl:=q;revert t;refine am fun hx hl=>?_
  unfold b9 at hd;rw[Bool.and_eq_true] at hd;refine ab (fun as r1 c1=>?_) (V.reads x hd.1 hx);refine ab (fun bs r2 c2=>?_) (ju l hd.2 hl);exact⟨as++bs,.cons r1 r2,by unfold bA PyData.canLayAll0;rw[c1,c2];rfl⟩
end
variable{kx:X→Hp→Prop}
theorem cF.u40(h:cF A (d+1) hd):A.units+40 < cLine:=by have:=h.units;omega
variable{x:V}
theorem uz(hx:x.isDat=true)(hy:y.isDat=true)(hdp:x.dat.depth≤30)(h:k (.bool (PyData.eqv x.dat y.dat)) H):Pr prog w K (d+1) hd [x,y] (kL .Eq) H k kx:=by
 refine az fun A σ Z s a b Q E hA S h1 h2 hQ hE=>?_;refine ab (fun as r1 c1=>?_) (V.reads x hx h1);refine ab (fun bs r2 c2=>?_) (V.reads y hy h2);exact SeqAt.compareEq_reads r1 r2 c1 c2 (by have:=hA.u40;have:=Nat.min_le_left x.dat.depth y.dat.depth;omega) (hQ _ s σ _ H (Go.refl ..) S VR.bool h)
theorem uF(hx:x.isDat=true)(hy:y.isDat=true)(hdp:x.dat.depth≤30)(h:k (.bool (!PyData.eqv x.dat y.dat)) H):Pr prog w K (d+1) hd [x,y] (kL .NotEq) H k kx:=by
 refine az fun A σ Z s a b Q E hA S h1 h2 hQ hE=>?_;refine ab (fun as r1 c1=>?_) (V.reads x hx h1);refine ab (fun bs r2 c2=>?_) (V.reads y hy h2);exact SeqAt.compareNe_reads r1 r2 c1 c2 (by have:=hA.u40;have:=Nat.min_le_left x.dat.depth y.dat.depth;omega) (hQ _ s σ _ H (Go.refl ..) S VR.bool h)
theorem uB(hx:x.isDat=true)(hy:b9 l=true)(hdp:x.dat.depth≤30)(h:k (.bool ((bA l).any fun y=>PyData.eqv y x.dat)) H):Pr prog w K (d+1) hd [x,.lst l] (kL .In) H k kx:=by
 refine az fun A σ Z s b a Q E hA S h2 h1 hQ hE=>?_;obtain⟨a,vs,rfl,f,⟨n,ho⟩,hl⟩:=h1;refine ab (fun as r1 c1=>?_) (ju l hy hl);refine ab (fun bs r2 c2=>?_) (V.reads x hx h2);exact SeqAt.in_list_reads (.list ho rfl rfl r1) r2 c1 c2 (by have:=hA.u40;have:=Nat.min_le_right (PyData.depthAll (bA l)) x.dat.depth;omega) (hQ _ s σ _ H (Go.refl ..) S VR.bool h)
theorem nw:∀ (n:Nat) (a:Array Value) (acc:Array Value),(List.foldl (fun x y=>x++y) acc (List.replicate n a)).toList=acc.toList++(List.replicate n a.toList).flatten
 | 0=>fun a acc=>by walk_at "s"
 | n+1=>fun a acc=>by rw[List.replicate_succ,List.foldl_cons,nw n a (acc++a)];simp[List.replicate_succ]
theorem ak.app{P:Params}{h:Heap}{σ Z:List Addr}:∀ {l1 l2:List V} {v1 v2:List Value},ak P h σ Z l1 v1→ak P h σ Z l2 v2→ak P h σ Z (l1++l2) (v1++v2)
 | [],_,_,_,q1,q2=>by subst q1;exact q2
 | x::r,l2,_,v2,q1,q2=>by
  revert q1;refine aV fun v r' q t=>?_;obtain rfl:=q;revert t;refine am fun hx hr=>?_
  show ak P h σ Z (x::(r++l2)) (v::(r'++v2));exact⟨v,r'++v2,rfl,hx,ak.app hr q2⟩
theorem ak.rep{P:Params}{h:Heap}{σ Z:List Addr}{l:List V}{vs:List Value}(q:ak P h σ Z l vs):∀ n:Nat,ak P h σ Z (List.replicate n l).flatten (List.replicate n vs).flatten
 | 0=>ak.nil
 | n+1=>by rw[List.replicate_succ,List.replicate_succ,List.flatten_cons,List.flatten_cons];exact ak.app q (ak.rep q n)
theorem mn(hne:l≠[])(h0:0≤i)(h1:l.length * i.toNat≤1000)(h2:i≤1000)(h:k (.lst (List.replicate i.toNat l).flatten) H):Pr prog w K d hd [.lst l,.int i] (qE .Mult) H k kx:=by
 refine az fun A σ Z s a b Q E hA S q1 q2 hQ hE=>?_;obtain⟨a,vs,rfl,f,⟨n,hl⟩,hvs⟩:=q1
 revert q2;refine af fun t t=>?_;obtain rfl:=t
 have hsz:vs.size=l.length:=by rw[hvs.length];simp
 have hem:vs.isEmpty=false:=by
  cases e:vs.isEmpty with
  | false=>rfl
  | true=>
   have:vs.size=0:=by simpa using e
   rw[hsz] at this;exact absurd (List.eq_nil_of_length_eq_zero this) hne
 show wpAny _ A (binaryOp .Mult (.ref a) (.int i t)) Q E s
 refine wpAny_binaryOp_repeat_ref (T:="list") (U:="int") (by decide) ⟨_,hl,rfl⟩ (fun s'=>typeIs_int s' i t) noFill_list_mul F.fills_int_mul F.slot_int_rmul repeat_list F.slot_int_index.lookup
  (call_meets F.slot_int_rmul (typeIs_int s i t) F.entry_int_rmul (F.args_int_rmul_2 _ _) (int___rmul___int_list i t a vs n)
   ⟨hl,rfl,⟨_,hl,rfl⟩,call_meets F.slot_list_mul ⟨_,hl,rfl⟩ F.entry_list_mul (F.args_list_mul_2 _ _)
    (AutoListH.list___mul___list_int_3 a vs n i t (by simp[Builtin.List.listFitsIndex];omega) (by rw[hsz];omega) (by rw[hsz];simp[Builtin.List.listTooLong,sizeLine];omega))
    ⟨hl,?_⟩⟩)
 refine hQ _ _ σ (.lst (List.replicate i.toNat l).flatten) H (Go.push Z σ s _ s.toks) (S.push _ s.toks) ?_ h;refine⟨_,_,rfl,S.fresh,⟨0,Heap.get?_push_size _ rfl⟩,?_⟩;rw[hem,if_neg (by decide),nw];exact ak.rep (ak.go (Go.push Z σ s _ s.toks) (fun J h=>nomatch h) _ hvs) i.toNat
theorem uy(hr:H[r]? =some (.l l))(hl:l.length+m.length≤1000)(h:k (.ob H.length) (H++[.l (l++m)])):Pr prog w K d hd [.ob r,.lst m] (qE .Add) H k kx:=by
 refine az fun A σ Z s a b Q E hA S h1 h2 hQ hE=>?_;obtain⟨a,rfl,ea⟩:=h1;obtain⟨b,ws,rfl,f2,⟨n2,hpl2⟩,hws⟩:=h2;obtain⟨vs,⟨n,hpl⟩,hvs⟩:=S.ob ea hr;have e1:vs.size=l.length:=by rw[hvs.length];simp
 have e2:ws.size=m.length:=by rw[hws.length];simp
 have g:=Go.pushOb Z σ s {cls:=.type "list",data:=.seq (vs++ws)} s.toks;refine P.add_list hpl hpl2 (hQ _ _ _ (.ob H.length) _ g (S.newOb _ s.toks (ob:=.l (l++m)) ⟨vs++ws,⟨0,Heap.get?_push_size _ rfl⟩,?_⟩) ?_ h) (by rw[e1,e2];exact Nat.le_trans hl (by decide))
 ·rw[Array.toList_append];exact ak.app (ak.go g (fun J h=>nomatch h) _ hvs) (ak.go g (fun J h=>nomatch h) _ hws)
 ·exact⟨_,rfl,S.newAt⟩
variable{kx:X→Hp→Prop}
theorem mw{P:Params}{h:Heap}{σ Z:List Addr}:∀ {ys:List Str} {vs:List Value},ak P h σ Z (ys.map V.str) vs→StrsAre vs ys
 | [],_,q=>by subst q;exact .nil
 | y::ys,_,q=>by
  rw[List.map_cons] at q
  revert q;refine aV fun v r q t=>?_;obtain rfl:=q;revert t;refine am fun hx hl=>?_
  revert hx;refine af fun t t=>?_;obtain rfl:=t
  exact .cons y t (mw hl)
variable{x:Str}
theorem oQ{ys:List Str}(hok:(ys.map (·.length)).sum+ys.length * x.length≤16777216)(h:k (.str (Txt.join x ys)) H):Pr prog w K d hd [.str x,.lst (ys.map V.str)] (fun vs=>call (.builtin "str.join") vs) H k kx:=by
 refine az fun A σ Z s a b Q E hA S h1 h2 hQ hE=>?_
 revert h1;refine af fun t t=>?_;obtain rfl:=t
 obtain⟨a,vs,rfl,f,hl,hvs⟩:=h2;exact join_list hl.isList (mw hvs) hok fun t' tk=>hQ _ _ σ _ H (Go.tok ..) (S.tok _) (by exact⟨t',rfl⟩) h
theorem ak.ints{P:Params}{h:Heap}{σ Z:List Addr}:∀ {l:List Int} {vs:List Value},ak P h σ Z (l.map V.int) vs→IntsAre vs l
 | [],_,q=>by subst q;exact .nil
 | y::ys,_,q=>by
  rw[List.map_cons] at q
  revert q;refine aV fun v r q t=>?_;obtain rfl:=q;revert t;refine am fun hx hl=>?_
  revert hx;refine af fun t t=>?_;obtain rfl:=t
  exact .cons y t (ak.ints hl)
variable{l:List Int}
theorem hU(h:IntsAre vs l):∀ (i:Nat) v,vs[i]? =some v→∃ n t,l[i]? =some n∧v=.int n t:=by
 induction h with
 | nil=>exact fun i v e=>nomatch (List.getElem?_nil (i:=i)).symm.trans e
 | cons n u h ih=>
  intro i v e;cases i with
  | zero=>exact⟨n,u,rfl,(Option.some.inj e).symm⟩
  | succ i=>exact ih i v e
variable{x:Int}{j:Nat}
theorem wP(hj:l[j]? =some x)(hno:∀ m,m < j→l[m]? ≠some x)(hl:l.length≤1000)(h:k (.int j) H):Pr prog w K d hd [.lst (l.map V.int),.int x] (fun vs=>call (.builtin "list.index") vs) H k kx:=by
 refine az fun A σ Z s a b Q E hA S h1 h2 hQ hE=>?_;obtain⟨a,ws,rfl,f,⟨n,hpl⟩,hws⟩:=h1
 revert h2;refine af fun t t=>?_;obtain rfl:=t
 have hi:=hws.ints;have hsz:ws.size=l.length:=by have:=hws.length;simp at this;omega
 have hjl:=(List.getElem?_eq_some_iff.mp hj).1
 refine call_meets F.slot_list_index ⟨_,hpl,rfl⟩ F.entry_list_index (F.args_list_index_2 _ _)
  (MeetsSeq.list_index a ws n (.int x t) (isInt x) (fun y hy=>eq_isInt x t hi y (by simpa using hy)) j (by omega) (by omega) ?_ ?_)
  ⟨hpl,hQ _ _ σ _ H (Go.tok ..) (S.tok _) VR.int h⟩
 ·have e0:ws.toList[j]? =some ws[j]:=by walk_at "s"
  refine aV (fun m u e1 e2=>?_) (hU hi j _ e0);rw[hj] at e1;exists e1;rw[e2];simp[isInt]
 ·intro m hm hmj;have e0:ws.toList[m]? =some ws[m]:=by walk_at "s"
  refine aV (fun m' u e1 e2=>?_) (hU hi m _ e0);rw[e2];have hne:m'≠x:=fun q=>hno m hmj (q▸e1);simp[isInt,hne]
theorem qf{l:List V}(hr:H[r]? =some (.l l))(hl:l.length≤1000)(h:k (.tup l) H):Pr prog w K d hd [.ob r] (fun vs=>call (.type "tuple") vs) H k kx:=by
 refine bu fun A σ Z s a Q E hA S h1 hQ hE=>?_;obtain⟨a,rfl,ea⟩:=h1;obtain⟨vs,hpl,hvs⟩:=S.ob ea hr;refine call_tuple_list hpl.isList (fun h' hk=>?_) (by have:=hvs.length;simp at this;exact Nat.le_trans (by omega) (show 1000≤sizeLine by decide));have g0:Go Z σ [] s σ {s with heap:=h'}:=.of ⟨fun b o e J J J=>hk b o e,fun b o e=>⟨o,hk b o e,fun h=>h⟩,⟨[],by walk_at "s",fun J h=>nomatch h⟩,rfl,rfl⟩;have S1:St K w.params A σ Z H {s with heap:=h'}:=S.go g0 (fun J h=>nomatch h) fun a o J e=>hk a o e;have g1:=Go.push Z σ {s with heap:=h'} {cls:=.type "tuple",data:=.seq vs} s.toks;refine hQ _ _ σ (.tup l) H (g0.trans g1) (S1.push _ s.toks) ?_ h;exact⟨_,vs,rfl,S1.fresh,⟨_,Heap.get?_push_size _ rfl,rfl,0,rfl⟩,ak.go g1 (fun J h=>nomatch h) _ (ak.go g0 (fun J h=>nomatch h) _ hvs)⟩
variable{x:Str}
theorem qb(hn:hd.h=true)(hl:x.cps.size≤1000)(h:k (.lst (dY x)) H):Pr prog w K d hd [.str x] (fun vs=>call (.type "list") vs) H k kx:=by
 refine bu fun A σ Z s a Q E hA S h1 hQ hE=>?_
 revert h1;refine af fun t t=>?_;obtain rfl:=t
 refine call_list_str (hA.none hn) x t (fun h' tk acc c hk hD hit=>?_) (Nat.le_trans hl (by decide));have g0:Go Z σ [] s σ {s with heap:=h',toks:=tk}:=.of ⟨fun b o e J J J=>hk b o e,fun b o e=>⟨o,hk b o e,fun h=>h⟩,⟨[],by walk_at "s",fun J h=>nomatch h⟩,rfl,rfl⟩;have S1:St K w.params A σ Z H {s with heap:=h',toks:=tk}:=S.go g0 (fun J h=>nomatch h) fun a o J e=>hk a o e;refine hQ _ _ σ (.lst (dY x)) H g0 S1 ?_ h;refine⟨_,acc,rfl,S.fresh,⟨c,hD⟩,?_⟩
 revert hit;refine am fun h1 h2=>?_
 have key:∀ (l:List Nat) (vs:List Value),l.length=vs.length→(∀ (j:Nat) v,vs[j]? =some v→∃ c u,l[j]? =some c∧v=.str ⟨#[c]⟩ u)→ak w.params h' σ Z (l.map fun c=>V.str ⟨#[c]⟩) vs:=by
  intro l
  induction l with
  | nil=>intro vs hl J;cases vs with
   | nil=>exact ak.nil
   | cons _ _=>exists hl
  | cons c l ih=>
   intro vs hl hv;cases vs with
   | nil=>exists hl
   | cons v vs=>
    refine aV (fun c' u e1 t=>?_) (hv 0 v rfl);obtain rfl:=t;simp at e1;subst e1;rw[List.map_cons];exact⟨_,vs,rfl,by exact⟨u,rfl⟩,ih vs (Nat.succ.inj hl) fun j v e=>hv (j+1) v (by simpa using e)⟩
 refine key x.cps.toList acc.toList (by simp[h1]) fun j v e=>?_;rw[Array.getElem?_toList] at e;refine aV (fun c u hc t=>?_) (h2 j v e);obtain rfl:=t;exact⟨c,u,by rw[Array.getElem?_toList];exact hc,rfl⟩
variable{Q:Value→Shared→Prop}
theorem gL{vs:Array Value}(S:St K w.params A σ Z H s)(hpl:s.heap.PlainList a vs)(hQ:s.heap.PlainList a vs→a≠s.heap.objs.size→(s.heap.push {cls:=.type "list_iterator",data:=.fields #[.ref a,.int 0 0]}).IsListIter s.heap.objs.size a 0→Q (.ref s.heap.objs.size) {s with heap:=s.heap.push {cls:=.type "list_iterator",data:=.fields #[.ref a,.int 0 0]}}):
  wpAny (model prog w) A (pyIter (.ref a)) Q E s:=by
 refine ab (fun o ho J=>?_) (id hpl.isList);exact wpAny_pyIter_list hpl.isList (hQ hpl (fV S ho) ⟨_,Heap.get?_push_size _ rfl,rfl,rfl⟩)
theorem mG(S:St K w.params A σ Z H s){tk:Nat}(hk:∀ b o,b∉[s.heap.objs.size]→(s.heap.push {cls:=.type "list_iterator",data:=.fields #[.ref a,.int 0 0]}).get? b=some o→h'.get? b=some o):
  Go Z σ [] s σ {s with heap:=h',toks:=tk}∧St K w.params A σ Z H {s with heap:=h',toks:=tk}:=by
 have k2:∀ b o,s.heap.get? b=some o→h'.get? b=some o:=fun b o e=>hk b o (fun q=>absurd (Heap.lt_size e) (by rw[List.mem_singleton.mp q];exact Nat.lt_irrefl _)) (Heap.get?_push_of_some _ e);have g:Go Z σ [] s σ {s with heap:=h',toks:=tk}:=.of ⟨fun b o e J J J=>k2 b o e,fun b o e=>⟨o,k2 b o e,fun h=>h⟩,⟨[],by walk_at "s",fun J h=>nomatch h⟩,rfl,rfl⟩;exact⟨g,S.go g (fun J h=>nomatch h) fun a o J e=>k2 a o e⟩
theorem wH(hn:hd.h=true){l:List Bool}(h:k (.bool (l.all id)) H):Pr prog w K d hd [.lst (l.map V.bool)] (fun vs=>call (.builtin "all") vs) H k kx:=by
 refine bu fun A σ Z s u Q E hA S hu hQ hE=>?_;obtain⟨a,vs,rfl,f,hpl,hvs⟩:=hu;have hh:A.in1.handled=none:=hA.none hn;have hlen:l.length=vs.size:=by have:=hvs.length;simpa using this
 have bat:∀ (i:Nat) v,vs[i]? =some v→∃ b,l[i]? =some b∧v=.bool b:=fun i v e=>by
  have hlt:i < l.length:=by have:=(Array.getElem?_eq_some_iff.mp e).1;omega
  refine ab (fun v' e' hv'=>?_) (hvs.get (i:=i) (u:=.bool l[i]) (by rw[List.getElem?_map,List.getElem?_eq_getElem hlt];rfl));rw[Array.getElem?_toList,e] at e';exists e';exact⟨l[i],List.getElem?_eq_getElem hlt,hv'⟩
 refine call_all_walk (gL (A:=A.in1) (S.around rfl) hpl fun J hne hit=>⟨_,_,_,_,_,_,fun i=>(l[i]?).getD true,rfl,Walks.list hh _ a hne vs,⟨hit,hpl.isList.at fun o e=>Heap.get?_push_of_some _ e⟩,?_,fun h' tk hk=>?_⟩)
 ·intro i v s' Q' E' hP hq;refine ab (fun b e1 t=>?_) (bat i v hP);obtain rfl:=t;dsimp only at hq;rw[e1] at hq;exact wpAny_truthy_bool hq
 ·have hall:(List.range vs.size).all (fun i=>(l[i]?).getD true)=l.all id:=by
   rw[←hlen,Bool.eq_iff_iff,List.all_eq_true,List.all_eq_true];constructor
   ·intro q x hx;obtain⟨i,hi,e⟩:=List.getElem_of_mem hx;have:=q i (List.mem_range.mpr hi);rw[List.getElem?_eq_getElem hi,e] at this;exact this
   ·intro q i hi;have hi':=List.mem_range.mp hi;rw[List.getElem?_eq_getElem hi'];exact q _ (List.getElem_mem hi')
  refine am (fun g S'=>?_) (mG (Z:=Z) (tk:=tk) S hk);rw[hall];exact hQ _ _ σ _ H g S' VR.bool h
theorem rB(hn:hd.h=true)(h:k (.int l.sum) H):Pr prog w K d hd [.lst (l.map V.int)] (fun vs=>call (.builtin "sum") vs) H k kx:=by
 refine bu fun A σ Z s u Q E hA S hu hQ hE=>?_;obtain⟨a,vs,rfl,f,hpl,hvs⟩:=hu;have hh:A.in1.handled=none:=hA.none hn;have hlen:l.length=vs.size:=by have:=hvs.length;simpa using this
 have hi:=hvs.ints;refine call_sum_walkG (gL (A:=A.in1) (S.around rfl) hpl fun J hne hit=>⟨_,_,_,_,_,_,fun i=>l.getD i 0,rfl,Walks.list hh _ a hne vs,⟨hit,hpl.isList.at fun o e=>Heap.get?_push_of_some _ e⟩,fun b hb=>?_,fun i v hP=>?_,fun h' tk t' hk=>?_⟩)
 ·rw[Heap.size_push];rcases List.mem_cons.mp hb with rfl | hb
  ·exact Nat.lt_succ_self _
  ·refine ab (fun o e J=>?_) (id hpl.isList);rw[List.mem_singleton.mp hb];exact Nat.lt_succ_of_lt (Heap.lt_size e)
 ·refine aV (fun n t e1 e2=>?_) (hU hi i v (by rw[Array.getElem?_toList];exact hP));exact⟨t,by dsimp only;rw[e2,List.getD_eq_getElem?_getD,e1];rfl⟩
 ·refine am (fun g S'=>?_) (mG (Z:=Z) (tk:=tk) S hk);rw[preSum_getD,←hlen,List.take_length];exact hQ _ _ σ _ H g S' VR.int h
theorem lv(bt:Nat→Nat→Bool):∀ k,argBest bt k≤k
 | 0=>Nat.le_refl _
 | k+1=>by unfold argBest;split;exact Nat.le_refl _;exact Nat.le_succ_of_le (lv bt k)
set_option tactic.hygienic true in
theorem ke(l:List Int):∀ k,∀ j,j≤k→l.getD (argBest (fun i j=>decide (l.getD i 0 < l.getD j 0)) k) 0≤l.getD j 0
 | 0=>fun j h=>by
  cases Nat.le_zero.mp h;exact Int.le_refl _
 | k+1=>fun j h=>by
  unfold argBest;have ih:=ke l k;split
  ·rename_i hlt;have hlt:=of_decide_eq_true hlt;rcases Nat.lt_or_ge j (k+1) with q | q
   ·exact Int.le_trans (Int.le_of_lt hlt) (ih j (Nat.le_of_lt_succ q))
   ·cases Nat.le_antisymm h q;exact Int.le_refl _
  ·rename_i hlt
   replace hlt:=mt decide_eq_true hlt
   rcases Nat.lt_or_ge j (k+1) with q | q
   ·exact ih j (Nat.le_of_lt_succ q)
   ·cases Nat.le_antisymm h q;exact Int.not_lt.mp hlt
theorem Bg(hn:hd.h=true)(hne0:l≠[]){m:Int}(hm:m∈l)(hle:∀ x∈l,m≤x)(h:k (.int m) H):Pr prog w K d hd [.lst (l.map V.int)] (fun vs=>call (.builtin "min") vs) H k kx:=by
 refine bu fun A σ Z s u Q E hA S hu hQ hE=>?_;obtain⟨a,vs,rfl,f,hpl,hvs⟩:=hu;have hh:A.in1.handled=none:=hA.none hn;have hlen:l.length=vs.size:=by have:=hvs.length;simpa using this
 have hpos:0 < l.length:=List.length_pos_iff.mpr hne0;have hi:=hvs.ints;refine call_min_walk (gL (A:=A.in1) (S.around rfl) hpl fun J hne hit=>⟨_,_,_,_,_,_,fun i j=>decide (l.getD i 0 < l.getD j 0),rfl,Walks.list hh _ a hne vs,⟨hit,hpl.isList.at fun o e=>Heap.get?_push_of_some _ e⟩,fun b hb=>?_,by omega,?_,fun v h' tk hP hk=>?_⟩)
 ·rw[Heap.size_push];rcases List.mem_cons.mp hb with rfl | hb
  ·exact Nat.lt_succ_self _
  ·refine ab (fun o e J=>?_) (id hpl.isList);rw[List.mem_singleton.mp hb];exact Nat.lt_succ_of_lt (Heap.lt_size e)
 ·intro i j vi vj s' Q' E' h1 h2 hq;refine aV (fun n1 t1 e1 t=>?_) (hU hi i vi (by rw[Array.getElem?_toList];exact h1));obtain rfl:=t;refine aV (fun n2 t2 e2 t=>?_) (hU hi j vj (by rw[Array.getElem?_toList];exact h2));obtain rfl:=t;refine P.lt_int ?_;dsimp only at hq;rw[List.getD_eq_getElem?_getD,List.getD_eq_getElem?_getD,e1,e2] at hq;exact hq
 ·refine am (fun g S'=>?_) (mG (Z:=Z) (tk:=tk) S hk);refine aV (fun n1 t1 e1 t=>?_) (hU hi _ v (by rw[Array.getElem?_toList];exact hP));obtain rfl:=t;have hmin:=ke l (vs.size - 1);have hle2:=lv (fun i j=>decide (l.getD i 0 < l.getD j 0)) (vs.size - 1);obtain⟨j,hj,ej⟩:=List.getElem_of_mem hm;have q1:=hmin j (Nat.le_sub_one_of_lt (hlen▸hj));rw[List.getD_eq_getElem?_getD,e1,List.getD_eq_getElem?_getD,List.getElem?_eq_getElem hj,ej] at q1;have q2:=hle n1 (List.mem_of_getElem? e1);have:n1=m:=by simp at q1;omega
  subst this;exact hQ _ _ σ _ H g S' VR.int h
theorem s7(hn:hd.h=true){x y:Int}(h:k (.int (max x y)) H):Pr prog w K d hd [.int x,.int y] (fun vs=>call (.builtin "max") vs) H k kx:=by
 refine az fun A σ Z s u v Q E hA S h1 h2 hQ hE=>?_
 revert h1;refine af fun t1 t=>?_;obtain rfl:=t
 revert h2;refine af fun t2 t=>?_;obtain rfl:=t
 have hh:A.in1.handled=none:=hA.none hn;have hT:(s.heap.push {cls:=.type "tuple",data:=.seq #[.int x t1,.int y t2]}).IsTuple s.heap.objs.size #[.int x t1,.int y t2]:=⟨_,Heap.get?_push_size _ rfl,rfl,0,rfl⟩;have hne:s.heap.objs.size≠(s.heap.push {cls:=.type "tuple",data:=.seq #[.int x t1,.int y t2]}).objs.size:=by rw[Heap.size_push];exact Nat.ne_of_lt (Nat.lt_succ_self _)
 refine call_max_two (wpAny_pyIter_tuple hT ⟨_,_,_,_,_,_,fun i j=>decide (([x,y]:List Int).getD j 0 < ([x,y]:List Int).getD i 0),rfl,Walks.tuple hh _ _ hne _,⟨⟨_,Heap.get?_push_size _ rfl,rfl,rfl⟩,hT.at fun o e=>Heap.get?_push_of_some _ e⟩,fun b hb=>?_,by walk_at "s",?_,fun v h' tk hP hk=>?_⟩)
 ·rw[Heap.size_push];rcases List.mem_cons.mp hb with rfl | hb
  ·exact Nat.lt_succ_self _
  ·rw[List.mem_singleton.mp hb,Heap.size_push];exact Nat.lt_succ_of_lt (Nat.lt_succ_self _)
 ·intro i j vi vj s' Q' E' h1 h2 hq
  have DX:∀ (i:Nat) v,(#[Value.int x t1,Value.int y t2]:Array Value)[i]? =some v→∃ t,v=.int (([x,y]:List Int).getD i 0) t:=fun i v e=>by
   rcases i with _ | _ | i
   ·simp at e;exact⟨t1,e.symm⟩
   ·simp at e;exact⟨t2,e.symm⟩
   ·simp at e
  refine af (fun a1 t=>?_) (DX i vi h1);obtain rfl:=t;refine af (fun a2 t=>?_) (DX j vj h2);obtain rfl:=t;exact P.gt_int hq
 ·have k2:∀ b o,s.heap.get? b=some o→h'.get? b=some o:=fun b o e=>hk b o (fun q=>absurd (Heap.lt_size e) (by rw[List.mem_singleton.mp q,Heap.size_push];exact Nat.not_lt.mpr (Nat.le_succ _))) (Heap.get?_push_of_some _ (Heap.get?_push_of_some _ e));have g:Go Z σ [] s σ {s with heap:=h',toks:=tk}:=.of ⟨fun b o e J J J=>k2 b o e,fun b o e=>⟨o,k2 b o e,fun h=>h⟩,⟨[],by walk_at "s",fun J h=>nomatch h⟩,rfl,rfl⟩;have S':St K w.params A σ Z H {s with heap:=h',toks:=tk}:=S.go g (fun J h=>nomatch h) fun a o J e=>k2 a o e
  have hv:∃ t,v=.int (max x y) t:=by
   have hP':(#[Value.int x t1,Value.int y t2]:Array Value)[if x < y then 1 else 0]? =some v:=by
    have e:argBest (fun i j=>decide (([x,y]:List Int).getD j 0 < ([x,y]:List Int).getD i 0)) ((#[Value.int x t1,Value.int y t2]:Array Value).size - 1)=if x < y then 1 else 0:=by
     show(if decide (x < y)=true then 1 else 0)=_;walk_at "s"
    rw[←e];exact hP
   by_cases hlt:x < y
   ·rw[if_pos hlt] at hP';simp at hP';exact⟨t2,by rw[←hP',Int.max_eq_right (Int.le_of_lt hlt)]⟩
   ·rw[if_neg hlt] at hP';simp at hP';exact⟨t1,by rw[←hP',Int.max_eq_left (Int.not_lt.mp hlt)]⟩
  revert hv;refine af fun t t=>?_;obtain rfl:=t
  exact hQ _ _ σ _ H g S' VR.int h
noncomputable def gA(name:Str):List Value→Sem Value
 | [o]=>getAttr o name true
 | _=>unsupported ""
inductive BF (K:Frag) (C N:Addr):Prop
 | mk nm q bs sn sub col dd k0 k1 k2 k3 k5:K.lookup C=some (excClassObj nm q C N bs [.type "object"] true sn sub false col dd k0 k1 k2 k3 k5 "object.__new__")→BF K C N
structure kH(K:Frag)(C N:Addr):Prop where
 obj:BF K C N
 ns:nsOkIn K N=true
variable{kx:X→Hp→Prop}{kxa:X→ai→Hp→Prop}
variable{attr:Str}
theorem aI(he:eval (.Attribute value attr pos) env=(do
   let o←eval value env
   standAt pos.atName
   let r←holding [o] (getAttr o attr true)
   letTemporaryGo value o r
   pure r))(h:Ev prog w K d hd env ρ (eval value env) H (Ec prog w K d hd (gA attr) k kx) kx):Ev prog w K d hd env ρ (eval (.Attribute value attr pos) env) H k kx:=by
 intro A σ Z s Q E hA S F hQ hE;rw[he];refine wpAny_bind (h A σ Z s _ _ hA S F (fun o s1 σ1 u H1 g1 S1 hu hk=>wpAny_bind (wpAny_standAt (wpAny_bind (wpAny_holding ?_)))) hE)
 have:=hk A σ1 Z s1 [o] (fun v s'=>wpAny (model prog w) A (letTemporaryGo value o v >>= fun J=>pure v) Q E s') E hA S1 (ak.one hu)
  (fun v s' σ' x H' g' S' hx hk=>wpAny_bind (wpAny_letTemporaryGo (wpAny_pure (hQ v s' σ' x H' (g1.trans g') S' hx hk)))) (hE.go g1)
 exact this
theorem kH.nsAt(c:kH K C N)(X:K.In h):h.Ns N (h.nsMap N):=.of_isNs (isNs_of_in X c.ns)
theorem kH.no(c:kH K C N)(X:K.In h)(e:nsIn K N x=some none):h.nsMap N x=none:=nsMap_none_of_in X c.ns e
variable{mg:Str→Option Value}{n:Str}
set_option tactic.hygienic true in
theorem dH{N:Addr}(X:K.In h)(G:h.Ns N mg)(e:nsIn K N n=some (some v)):mg n=some v:=by
 revert G;refine Ba fun o es ep ho hd J hf=>?_
 unfold nsIn at e;split at e
 ·rename_i c d es' n' sl q;have:=X _ _ q;rw[ho] at this;exists this;exists hd;split at e
  ·rename_i e1 he;rw[←hf];unfold nsFind findBy;rw[←Array.find?_toList,he];exists e;rfl
  ·split at e <;> exists e
 ·exists e
theorem jg{dd:Addr}{C:Nat}{o:Obj}(ho:h.get? a=some o)(hi:zK o C dd)(hne:dd≠a)(hd:xh h dd ks vs):h.Inst a C fun x=>(ks.zip vs).lookup x:=
 ⟨o,ho,hi.1,hi.2.1,.inr ⟨dd,hi.2.2,hne,hd.2⟩⟩
theorem dF:∀ {ks:List Str} {vs:List Value} {us:List V} {P:Params} {h:Heap} {σ Z:List Addr} {k:Str} {u:V},ak P h σ Z us vs→(ks.zip us).lookup k=some u→∃ v,(ks.zip vs).lookup k=some v∧VR P h σ Z u v
 | [],_,_,_,_,_,_,_,_,_,e=>by simp at e
 | _::_,_,[],_,_,_,_,_,_,_,e=>by simp at e
 | k0::ks,vs,u0::us,P,h,σ,Z,k,u,q,e=>by
  revert q;refine aV fun v r q t=>?_;obtain rfl:=q;revert t;refine am fun hx hr=>?_
  rw[List.zip_cons_cons,List.lookup_cons] at e ⊢;cases hk:k==k0 with
  | true=>rw[hk] at e;exists e;exact⟨v,rfl,hx⟩
  | false=>rw[hk] at e;exact dF hr e
theorem fe:∀ {ks:List Str} {vs:List Value} {k:Str},k∉ks→(ks.zip vs).lookup k=none
 | [],_,_,_=>rfl
 | _::_,[],_,_=>rfl
 | k0::ks,v::vs,k,h=>by
  rw[List.zip_cons_cons,List.lookup_cons];have:(k==k0)=false:=by simpa using fun e:k=k0=>h (e▸List.mem_cons_self)
  rw[this];exact fe fun q=>h (List.mem_cons_of_mem _ q)
noncomputable def gk:V→Bool
 | .bi _=>false
 | .gl _=>true
 | _=>true
theorem handed(hu:VR P h σ Z u v)(hb:gk u=true):handedOut v=pure v:=by
 exists u
 case bi=>exists hb
 case int=>revert hu;refine af fun J t=>?_;obtain rfl:=t;rfl
 case str=>revert hu;refine af fun J t=>?_;obtain rfl:=t;rfl
 case ob=>obtain⟨_,rfl,_⟩:=hu;rfl
 case ins=>obtain⟨_,_,_,rfl,_⟩:=hu;rfl
 case fin=>obtain⟨_,_,_,_,rfl,_⟩:=hu;rfl
 case slc=>obtain⟨_,_,_,_,rfl,_⟩:=hu;rfl
 case thg=>obtain⟨_,_,_,_,_,rfl,_⟩:=hu;rfl
 case clo=>obtain⟨_,_,_,_,_,rfl,_⟩:=hu;rfl
 case exc=>obtain⟨_,_,_,_,_,rfl,_⟩:=hu;rfl
 all_goals first
  | (have e:v=_:=hu;subst e;rfl)
  | (obtain⟨_,_,rfl,_⟩:=hu;rfl)
variable{l:List V}
theorem kA{C N:Addr}(c:kH K C N)(hng:nsIn K N "__getattribute__"=some none)(hna:nsIn K N name=some none)(hB:typeLookup (.type "object") name=pure none)(hu:(ks.zip l).lookup name=some u)(hb:gk u=true)(h:k u H):Pr prog w K d hd [.fin C ks l] (gA name) H k kx:=by
 refine bu fun A σ Z s o Q E hA S hu1 hQ hE=>?_;obtain⟨a,dd,ws,oi,rfl,f1,f2,ho,hi,hne,hd,hws⟩:=hu1;refine ab (fun v e hv=>?_) (dF hws hu);obtain⟨nm,q,bs,sn,sub,col,dd,k0,k1,k2,k3,k5,hC⟩:=c.obj;obtain⟨hp,g,dr,t,os⟩:=s;exact load_attr (S.at hC) (c.nsAt S.kin) (c.no S.kin hng) (c.no S.kin hna) hB (jg ho hi hne hd) e (handed hv hb) (hQ v _ σ u H (Go.tok Z σ [] ⟨hp,g,dr,t,os⟩ (t+1)) (S.tok (t+1)) hv h)
theorem kB{C N:Addr}(c:kH K C N)(hr:H[r]? =some (.n ks l))(hng:nsIn K N "__getattribute__"=some none)(hna:nsIn K N name=some none)(hB:typeLookup (.type "object") name=pure none)(hu:(ks.zip l).lookup name=some u)(hb:gk u=true)(h:k u H):Pr prog w K d hd [.ins C r] (gA name) H k kx:=by
 refine bu fun A σ Z s o Q E hA S hu1 hQ hE=>?_;obtain⟨a,dd,oi,rfl,f1,ho,hi,hne,ea⟩:=hu1;obtain⟨ws,hd,hws⟩:=S.ob ea hr;refine ab (fun v e hv=>?_) (dF hws hu);obtain⟨nm,q,bs,sn,sub,col,dd,k0,k1,k2,k3,k5,hC⟩:=c.obj;obtain⟨hp,g,dr,t,os⟩:=s;exact load_attr (S.at hC) (c.nsAt S.kin) (c.no S.kin hng) (c.no S.kin hna) hB (jg ho hi hne hd) e (handed hv hb) (hQ v _ σ u H (Go.tok Z σ [] ⟨hp,g,dr,t,os⟩ (t+1)) (S.tok (t+1)) hv h)
theorem ky{C:Addr}(hr:readsIn K C (.type "type")=true)(e:findCls K (.ref C) (.type "type") name=some (.val v))(hh:handedIn v=true)(hu:∀ P h σ Z,VR P h σ Z u v)(h:k u H):Pr prog w K d hd [.gl C] (gA name) H k kx:=by
 refine bu fun A σ Z s o Q E hA S hu1 hQ hE=>?_;subst hu1;exact cls_value S.kin hr e hh (hQ v _ σ u H (Go.tok ..) (S.tok _) (hu ..) h)
noncomputable def sA(name:Str):List Value→Sem Value
 | [o,v]=>setAttr o name v >>= fun J=>pure .none
 | _=>unsupported ""
noncomputable abbrev Ei(prog:Program)(w:World)(K:Frag)(d:Nat)(hd:Hd)(ρ:ai)(f:List Value→Sem Value)(v:V)(ka:ai→Hp→Prop)(kxa:X→ai→Hp→Prop)(u:V)(H:Hp):Prop:=Pr prog w K d hd [u,v] f H (BU ρ ka) (nc ρ kxa)
theorem dc{Xw:List Addr}(h:Ev prog w K d hd env ρ (eval o env) H (Ei prog w K d hd ρ (sA name) u ka kxa) (nc ρ kxa)):
  As prog w K d hd env Xw ρ (assign (.Attribute o name pos) env) u H ka kxa:=by
 intro A σ Z s v Q E hA S F hv hQ hE;rw[assign_Attribute];refine wpAny_bind (wpAny_holding (h A σ Z s _ _ hA S F (fun ov s1 σ1 uo H1 g1 S1 ho hk=>?_) (hE.to S F)));have F1:=F.go S g1
 have:=hk A σ1 Z s1 [ov,v] (fun J s'=>Q () s') E hA S1 (ak.two ho (VR.go g1 (fun J h=>nomatch h) _ hv)) (fun J s' σ' J H' g' S' J hk=>hQ s' σ' ρ H' ((g1.trans g').wide fun J h=>nomatch h) S' (F1.go S1 g') hk)
  (fun e s' σ' x H' g' S' hx hk=>hE e s' σ' x ρ H' ((g1.trans g').wide fun J h=>nomatch h) S' (F1.go S1 g') ((hx.fr F1 S1 g').old g1) hk)
 exact o6 this
theorem mH:Within (fun x=>(ks.zip vs).lookup x) ks:=fun y h=>by
 by_cases q:y∈ks
 ·exact q
 ·exact absurd (fe q) h
theorem mo{C N:Addr}(c:kH K C N)(hr:H[r]? =some (.n ks l))(hns:nsIn K N "__setattr__"=some none)(hna:nsIn K N name=some none)(hB:typeLookup (.type "object") name=pure none)(hl:ks.length≤1000)(hC8:C < 378)(h:k .none (H.set r (.n (name::ks) (u::l)))):Pr prog w K d hd [.ins C r,u] (sA name) H k kx:=by
 refine az fun A σ Z s o v Q E hA S hu1 hu2 hQ hE=>?_;obtain⟨a,dd,oi,rfl,f1,ho,hi,hne,ea⟩:=hu1;obtain⟨ws,hdn,hws⟩:=S.ob ea hr;obtain⟨nm,q,bs,sn,sub,col,d2,k0,k1,k2,k3,k5,hC⟩:=c.obj;have hI:=jg ho hi hne hdn;have hlen:=hdn.1;obtain⟨hp,g,dr,t,os⟩:=s;show wpAny _ A (setAttr (.ref a) name v >>= fun J=>pure .none) Q E _;refine wpAny_bind (store_attr (ns:=ks) PySem.F.store_object (S.at hC) (c.nsAt S.kin) (c.no S.kin hns) (c.no S.kin hna) hB (fun e=>absurd f1.lo (by rw[e];exact Nat.not_le.mpr hC8)) hI (fun h' tk' hI' hk hsame=>wpAny_pure ?_) mH (Nat.le_trans hl (by decide)));refine EO (fun o1 ho1 q1 q2 q3 q4=>?_) (hsame _ ho)
 have ho1':h'.get? a=some oi:=by
  rw[ho1];obtain⟨oc,od,odt,osl⟩:=o1;obtain⟨pc,pd,pdt,psl⟩:=oi;have e1:=q1;have e2:=q2;have e3:=q3;have e4:=q4 dd hi.2.2;have e5:=hi.2.2;simp only at e1 e2 e3 e4 e5;subst e1 e2 e3 e4 e5;rfl
 have keep:∀ b o,b≠dd→hp.get? b=some o→h'.get? b=some o:=fun b o hb e=>by
  by_cases hba:b=a
  ·subst hba;rw[(show hp.get? b=_ from ho)] at e;exists e;exact ho1'
  ·exact hk b o hba (fun o0 dx h1 h2=>by rw[(show hp.get? a=_ from ho)] at h1;exists h1;rw[hi.2.2] at h2;exists h2;exact hb) e
 have hdN:h'.Ns1 dd fun y=>if y=name then some v else (ks.zip ws).lookup y:=by
  revert hI';refine yD fun o2 ho2 J J hdd=>?_
  rw[ho1'] at ho2;exists ho2;rcases hdd with ⟨e,_⟩ | ⟨d',e,_,hn⟩
  ·rw[hi.2.2] at e;exists e
  ·rw[hi.2.2] at e;exists e;exact hn
 have ham:=List.mem_of_getElem? ea
 have hdd:∀ o,hp.get? dd=some o→∃ o',h'.get? dd=some o'∧(cT o=true→cT o'=true):=fun o e=>by
  refine ab (fun o' e' hd'=>?_) (jT hdN.ns);exact⟨o',e',fun J=>hd'⟩
 have g1:Go Z σ [] (⟨hp,g,dr,t,os⟩:Shared) σ ⟨h',g,dr,tk',os⟩:=.of ⟨fun b o e J hb J=>keep b o (fun q=>hb (q▸ham)) e,fun b o e=>by
  by_cases hb:b=dd
  ·subst hb;exact hdd o e
  ·exact⟨o,keep b o hb e,fun h=>h⟩,⟨[],by walk_at "s",fun J h=>nomatch h⟩,rfl,rfl⟩
 refine hQ .none _ σ .none _ g1 (S.setOb' (ob:=.n (name::ks) (u::l)) ea tk' keep hdd ⟨v::ws,⟨by simp[hlen],?_⟩,?_⟩) VR.none' h
 ·have e:(fun x=>((name::ks).zip (v::ws)).lookup x)=fun y=>if y=name then some v else (ks.zip ws).lookup y:=by
   funext y
   rw[List.zip_cons_cons,List.lookup_cons]
   by_cases hy:y=name
   ·subst hy;simp
   ·have:(y==name)=false:=by simpa using hy
    rw[this,if_neg hy]
  rw[e];exact hdN
 ·exact⟨v,ws,rfl,VR.go g1 (fun J h=>nomatch h) _ hu2,ak.go g1 (fun J h=>nomatch h) _ hws⟩
noncomputable def lz(f:Value)(n:Nat)(names:List Str):List Value→Sem Value:=fun vs=>call f (vs.take n) (names.zip (vs.drop n))
noncomputable def Gi(prog:Program)(w:World)(K:Frag)(u:V)(name:Str)(f:Value)(H:Hp):Prop:=
 ∀ (A:Around) (σ Z:List Addr) (s:Shared) (v:Value) (pl:Sem Bool) (Q:Value × List Value→Shared→Prop) (E:Value→Shared→Prop),St K w.params A σ Z H s→VR w.params s.heap σ Z u v→Q (f,[v]) s→wpAny (model prog w) A (getMethod v name pl) Q E s
variable{kx:X→Hp→Prop}{ks:List V→Hp→Prop}
theorem gG(h:ks [] H):Es prog w K d hd env ρ (evalAll ((backToKw pos (keywordEach [] env)).map (·.2))) H ks kx:=by
 intro A σ Z s Q E hA S F hQ hE;exact kwAll_nil (hQ [] s σ [] H (Go.refl ..) S ak.nil h)
theorem eU{rest:List Keyword}(h:Ev prog w K d hd env ρ (eval value env) H (Ee prog w K d hd env ρ (evalAll ((backToKw pos (keywordEach rest env)).map (·.2))) ks kx) kx):
  Es prog w K d hd env ρ (evalAll ((backToKw pos (keywordEach (⟨some name,value,p⟩::rest) env)).map (·.2))) H ks kx:=by
 intro A σ Z s Q E hA S F hQ hE;refine kwAll_cons (h A σ Z s _ _ hA S F (fun v s1 σ1 u H1 g1 S1 hu hk=>?_) hE)
 exact hk A σ1 Z s1 _ _ hA S1 (F.go S g1) (fun vs s' σ' us H' g' S' hus hk'=>hQ _ s' σ' (u::us) H' (g1.trans g') S' (by exact⟨v,vs,rfl,VR.go g' (fun J h=>nomatch h) _ hu,hus⟩) hk')
  (hE.go g1)
variable{kk:List Str}{fa:Addr}{y:Option Value}
theorem vU{C N:Addr}{of:Obj}(c:kH K C N)(hng:nsIn K N "__getattribute__"=some none)(hnh:nsIn K N "__getattr__"=some none)(hf:nsIn K N name=some (some (.ref fa)))(ho:K.lookup fa=some of)(hfc:of.cls=.type "function")(hB:typeLookup (.type "object") name=pure y)(hsh:name∉kk):Gi prog w K (.fin C kk l) name (.ref fa) H:=by
 intro A σ Z s v pl Q E S hu hq;obtain⟨a,dd,ws,oi,rfl,f1,f2,ho',hi,hne,hdn,hws⟩:=hu;obtain⟨nm,q,bs,sn,sub,col,d2,k0,k1,k2,k3,k5,hC⟩:=c.obj;obtain⟨hp,g,dr,t,os⟩:=s;exact PySem.method_of (S.at hC) (c.nsAt S.kin) (c.no S.kin hng) (c.no S.kin hnh) (dH S.kin (c.nsAt S.kin) hf) (S.at ho) hfc hB (jg ho' hi hne hdn) (fe hsh) hq
theorem AF{C N:Addr}{of:Obj}(c:kH K C N)(hr:H[r]? =some (.n kk l))(hng:nsIn K N "__getattribute__"=some none)(hnh:nsIn K N "__getattr__"=some none)(hf:nsIn K N name=some (some (.ref fa)))(ho:K.lookup fa=some of)(hfc:of.cls=.type "function")(hB:typeLookup (.type "object") name=pure y)(hsh:name∉kk):Gi prog w K (.ins C r) name (.ref fa) H:=by
 intro A σ Z s v pl Q E S hu hq;obtain⟨a,dd,oi,rfl,f1,ho',hi,hne,ea⟩:=hu;obtain⟨ws,hdn,hws⟩:=S.ob ea hr;obtain⟨nm,q,bs,sn,sub,col,d2,k0,k1,k2,k3,k5,hC⟩:=c.obj;obtain⟨hp,g,dr,t,os⟩:=s;exact PySem.method_of (S.at hC) (c.nsAt S.kin) (c.no S.kin hng) (c.no S.kin hnh) (dH S.kin (c.nsAt S.kin) hf) (S.at ho) hfc hB (jg ho' hi hne hdn) (fe hsh) hq
inductive BX (name:Str) (f:Value) (prog:Program) (w:World) (K:Frag) (d:Nat) (hd:Hd) (env:Env) (ρ:ai) (t:Sem (List Value)) (k:V→Hp→Prop) (kx:X→Hp→Prop) (u:V) (H:Hp):Prop
 | mk:Gi prog w K u name f H→Es prog w K d hd env ρ t H (xu prog w K d hd u (fun vs=>call f vs) k kx) kx→BX name f prog w K d hd env ρ t k kx u H
inductive y9 (name:Str) (f:Value) (prog:Program) (w:World) (K:Frag) (d:Nat) (hd:Hd) (k:V→Hp→Prop) (kx:X→Hp→Prop) (u:V) (H:Hp):Prop
 | mk:Gi prog w K u name f H→Pr prog w K d hd [u] (fun vs=>call f vs) H k kx→y9 name f prog w K d hd k kx u H
variable{f:Value}
theorem bZ(hev:eval (.Call (.Attribute o name apos) (e::rest) [] pos) env=(do
   let ov←eval o env
   standAt apos.atName
   let (f,first)←holding [ov] (getMethod ov name pl)
   callWith pos f first (backTo pos (starEach (e::rest) env)) []))(he:starEach (e::rest) env=(false,eval e env)::starEach rest env)(hplain:(backTo pos (starEach rest env)).any (·.1)=false)(hkeep:keepIn K f=true)(h:Ev prog w K d hd env ρ (eval o env) H (BX name f prog w K d hd env ρ (spliced (backTo pos (starEach (e::rest) env))) k kx) kx):
  Ev prog w K d hd env ρ (eval (.Call (.Attribute o name apos) (e::rest) [] pos) env) H k kx:=by
 intro A σ Z s Q E hA S F hQ hE;refine MethodCall_ (pl:=pl) (h A σ Z s _ _ hA S F (fun v s1 σ1 u H1 g1 S1 hu hk=>?_) hE) hev;obtain⟨hk1,hk2⟩:=hk;refine hk1 A σ1 Z s1 v pl _ E S1 hu ?_
 have hplain':(((false,eval e env)::starEach rest env |> backTo pos).any (·.1) || ([]:List (Option Str × Sem Value)).any (·.1.isNone))=false:=by
  show((false || (backTo pos (starEach rest env)).any (·.1)) || false)=false;rw[hplain];rfl
 dsimp only
 have run:=hk2 A σ1 Z s1 (fun vs s2=>K.In s2.heap∧wpAny (model prog w) A (call f ([v]++vs)) Q E s2) E hA S1 (F.go S g1) (fun vs s2 σ2 us H2 g2 S2 hus hk3=>⟨S2.kin,hk3 A σ2 Z s2 (v::vs) _ _ hA S2 (by exact⟨v,vs,rfl,VR.go g2 (fun J h=>nomatch h) _ hu,hus⟩)
  (hQ.go (g1.trans g2)) (hE.go (g1.trans g2))⟩)
  (hE.go g1)
 rw[he] at run ⊢;exact PySem.W.callWith_of hplain' (keeps_K hkeep) (Calls.evalArgs_plain run)
theorem hJ(hev:eval (.Call (.Attribute o name apos) [] [] pos) env=(do
   let ov←eval o env
   standAt apos.atName
   let (f,first)←holding [ov] (getMethod ov name pl)
   callWith pos f first (backTo pos (starEach [] env)) []))(hkeep:keepIn K f=true)(h:Ev prog w K d hd env ρ (eval o env) H (y9 name f prog w K d hd k kx) kx):
  Ev prog w K d hd env ρ (eval (.Call (.Attribute o name apos) [] [] pos) env) H k kx:=by
 intro A σ Z s Q E hA S F hQ hE;refine MethodCall_ (pl:=pl) (h A σ Z s _ _ hA S F (fun v s1 σ1 u H1 g1 S1 hu hk=>?_) hE) hev;obtain⟨hk1,hk2⟩:=hk;refine hk1 A σ1 Z s1 v pl _ E S1 hu ?_;exact PySem.W.callWith_of rfl (keeps_K hkeep) (evalArgs_nil3 ⟨S1.kin,hk2 A σ1 Z s1 [v] _ _ hA S1 (ak.one hu) (hQ.go g1) (hE.go g1)⟩)
variable{kws:List Keyword}{n:Nat}{names:List Str}
theorem dD(hev:eval (.Call (.Attribute o name apos) (e::rest) kws pos) env=(do
   let ov←eval o env
   standAt apos.atName
   let (f,first)←holding [ov] (getMethod ov name pl)
   callWith pos f first (backTo pos (starEach (e::rest) env)) (backToKw pos (keywordEach kws env))))(he:starEach (e::rest) env=(false,eval e env)::starEach rest env)(hplain:(backTo pos (starEach rest env)).any (·.1)=false)(hkeep:keepIn K f=true)(hall:(backToKw pos (keywordEach kws env)).all (·.1.isSome)=true)(hno:(backToKw pos (keywordEach kws env)).any (·.1.isNone)=false)(hnames:(backToKw pos (keywordEach kws env)).filterMap (·.1)=names)(h:Ev prog w K d hd env ρ (eval o env) H (fun u H1=>Gi prog w K u name f H1∧Es prog w K d hd env ρ (spliced (backTo pos (starEach (e::rest) env))) H1 (fun us H2=>us.length+1=n∧Es prog w K d hd env ρ (evalAll ((backToKw pos (keywordEach kws env)).map (·.2))) H2 (fun ws H3=>
   Pr prog w K d hd (u::us++ws) (lz f n names) H3 k kx) kx) kx) kx):
  Ev prog w K d hd env ρ (eval (.Call (.Attribute o name apos) (e::rest) kws pos) env) H k kx:=by
 intro A σ Z s Q E hA S F hQ hE;rw[hev];refine wpAny_bind (h A σ Z s _ _ hA S F (fun v s1 σ1 u H1 g1 S1 hu hk=>wpAny_bind (wpAny_standAt (wpAny_bind (wpAny_holding ?_)))) hE);refine hk.1 A σ1 Z s1 v pl _ E S1 hu ?_
 have hplain':(((false,eval e env)::starEach rest env |> backTo pos).any (·.1) || (backToKw pos (keywordEach kws env)).any (·.1.isNone))=false:=by
  rw[hno];show((false || (backTo pos (starEach rest env)).any (·.1)) || false)=false;rw[hplain];rfl
 dsimp only
 have run:=hk.2 A σ1 Z s1 (fun vs s2=>wpAny (model prog w) A (evalAll ((backToKw pos (keywordEach kws env)).map (·.2))) (fun kvs s3=>K.In s3.heap∧wpAny (model prog w) A (call f ([v]++vs) (((backToKw pos (keywordEach kws env)).filterMap (·.1)).zip kvs)) Q E s3) E s2) E hA S1 (F.go S g1) (fun vs s2 σ2 us H2 g2 S2 hus hk2=>?_)
  (hE.go g1)
 ·rw[he] at run ⊢;exact PySem.W.callWith_of hplain' (keeps_K hkeep) (evalArgs_kw hall run)
 ·revert hk2;refine am fun hn hk2=>?_
  have g12:=g1.trans g2;refine hk2 A σ2 Z s2 _ _ hA S2 ((F.go S g1).go S1 g2) (fun kvs s3 σ3 ws H3 g3 S3 hws hk3=>⟨S3.kin,?_⟩) (hE.go g12);have hvs:ak w.params s3.heap σ3 Z (u::us++ws) (v::vs++kvs):=ak.app (by exact⟨v,vs,rfl,VR.go g3 (fun J h=>nomatch h) _ (VR.go g2 (fun J h=>nomatch h) _ hu),ak.go g3 (fun J h=>nomatch h) _ hus⟩) hws;have q:=hk3 A σ3 Z s3 (v::vs++kvs) _ _ hA S3 hvs (hQ.go (g12.trans g3)) (hE.go (g12.trans g3));have hlen:(v::vs).length=n:=by rw[List.length_cons,←hus.length,hn]
  unfold lz at q;rw[←hlen,List.take_left',List.drop_left'] at q
  ·rw[hnames];exact q
  ·rfl
  ·rfl
theorem pr(he:starEach (e::rest) env=(false,eval e env)::starEach rest env)(hplain:(backTo pos (starEach rest env)).any (·.1)=false)(hkeep:keepIn K (.ref a)=true)(h:Ev prog w K d hd env ρ (eval (.Name x p) env) H (fun u H1=>u=.gl a∧Es prog w K d hd env ρ (spliced (backTo pos (starEach (e::rest) env))) H1 (tz prog w K d hd (fun vs=>call (.ref a) vs) k kx) kx) kx):
  Ev prog w K d hd env ρ (eval (.Call (.Name x p) (e::rest) [] pos) env) H k kx:=by
 intro A σ Z s Q E hA S F hQ hE;refine Call_Name rfl (h A σ Z s _ _ hA S F (fun v s1 σ1 u H1 g1 S1 hu hk=>?_) hE)
 revert hk;refine am fun q hk=>?_;obtain rfl:=q
 subst hu
 have hplain':(((false,eval e env)::starEach rest env |> backTo pos).any (·.1) || ([]:List (Option Str × Sem Value)).any (·.1.isNone))=false:=by
  show((false || (backTo pos (starEach rest env)).any (·.1)) || false)=false;rw[hplain];rfl
 have run:=hk A σ1 Z s1 (fun vs s2=>K.In s2.heap∧wpAny (model prog w) A (call (.ref a) ([]++vs)) Q E s2) E hA S1 (F.go S g1) (fun vs s2 σ2 us H2 g2 S2 hus hk2=>⟨S2.kin,hk2 A σ2 Z s2 vs _ _ hA S2 hus
  (hQ.go (g1.trans g2)) (hE.go (g1.trans g2))⟩)
  (hE.go g1)
 rw[he] at run ⊢;exact PySem.W.callWith_of hplain' (keeps_K hkeep) (Calls.evalArgs_plain run)
theorem tT(hkeep:keepIn K (.ref a)=true)(h:Ev prog w K d hd env ρ (eval (.Name x p) env) H (fun u H1=>u=.gl a∧Pr prog w K d hd [] (fun vs=>call (.ref a) vs) H1 k kx) kx):
  Ev prog w K d hd env ρ (eval (.Call (.Name x p) [] [] pos) env) H k kx:=by
 intro A σ Z s Q E hA S F hQ hE;refine Call_Name rfl (h A σ Z s _ _ hA S F (fun v s1 σ1 u H1 g1 S1 hu hk=>?_) hE)
 revert hk;refine am fun q hk=>?_;obtain rfl:=q
 subst hu;exact PySem.W.callWith_of rfl (keeps_K hkeep) (evalArgs_nil3 ⟨S1.kin,hk A σ1 Z s1 [] _ _ hA S1 ak.nil (hQ.go g1) (hE.go g1)⟩)
theorem tU(he:starEach (e::rest) env=(false,eval e env)::starEach rest env)(hplain:(backTo pos (starEach rest env)).any (·.1)=false)(hkeep:keepIn K (.ref a)=true)(hall:(backToKw pos (keywordEach kws env)).all (·.1.isSome)=true)(hno:(backToKw pos (keywordEach kws env)).any (·.1.isNone)=false)(hnames:(backToKw pos (keywordEach kws env)).filterMap (·.1)=names)(h:Ev prog w K d hd env ρ (eval (.Name x p) env) H (fun u H1=>u=.gl a∧Es prog w K d hd env ρ (spliced (backTo pos (starEach (e::rest) env))) H1 (fun us H2=>us.length=n∧Es prog w K d hd env ρ (evalAll ((backToKw pos (keywordEach kws env)).map (·.2))) H2 (fun ws H3=>
   Pr prog w K d hd (us++ws) (lz (.ref a) n names) H3 k kx) kx) kx) kx):
  Ev prog w K d hd env ρ (eval (.Call (.Name x p) (e::rest) kws pos) env) H k kx:=by
 intro A σ Z s Q E hA S F hQ hE;refine wpAny_Call_ofName (h A σ Z s _ _ hA S F (fun v s1 σ1 u H1 g1 S1 hu hk=>?_) hE)
 revert hk;refine am fun q hk=>?_;obtain rfl:=q
 subst hu
 have hplain':(((false,eval e env)::starEach rest env |> backTo pos).any (·.1) || (backToKw pos (keywordEach kws env)).any (·.1.isNone))=false:=by
  rw[hno];show((false || (backTo pos (starEach rest env)).any (·.1)) || false)=false;rw[hplain];rfl
 have run:=hk A σ1 Z s1 (fun vs s2=>wpAny (model prog w) A (evalAll ((backToKw pos (keywordEach kws env)).map (·.2))) (fun kvs s3=>K.In s3.heap∧wpAny (model prog w) A (call (.ref a) ([]++vs) (((backToKw pos (keywordEach kws env)).filterMap (·.1)).zip kvs)) Q E s3) E s2) E hA S1 (F.go S g1) (fun vs s2 σ2 us H2 g2 S2 hus hk2=>?_)
  (hE.go g1)
 ·rw[he] at run ⊢;exact PySem.W.callWith_of hplain' (keeps_K hkeep) (evalArgs_kw hall run)
 ·revert hk2;refine am fun hn hk2=>?_
  have g12:=g1.trans g2;refine hk2 A σ2 Z s2 _ _ hA S2 ((F.go S g1).go S1 g2) (fun kvs s3 σ3 ws H3 g3 S3 hws hk3=>⟨S3.kin,?_⟩) (hE.go g12);have hvs:ak w.params s3.heap σ3 Z (us++ws) (vs++kvs):=ak.app (ak.go g3 (fun J h=>nomatch h) _ hus) hws;have q:=hk3 A σ3 Z s3 (vs++kvs) _ _ hA S3 hvs (hQ.go (g12.trans g3)) (hE.go (g12.trans g3));have hlen:vs.length=n:=by rw[←hus.length,hn]
  unfold lz at q;rw[←hlen,List.take_left',List.drop_left'] at q
  ·rw[hnames];exact q
  ·rfl
  ·rfl
theorem kQ(C:Addr)(vs:List Value):(Code.builtin "type.__call__" ⟨.ref C::vs,[]⟩).weight≤1:=by
 have e:(Code.builtin "type.__call__" ⟨.ref C::vs,[]⟩).weight=1∨(Code.builtin "type.__call__" ⟨.ref C::vs,[]⟩).weight=0:=by first | exact .inl rfl | exact .inr rfl
 omega
theorem mF(C:Addr)(vs:List Value):(Code.builtin "type.__call__" ⟨.ref C::vs,[]⟩).cUnits≤10:=by
 have e:∃ n,n≤10∧(Code.builtin "type.__call__" ⟨.ref C::vs,[]⟩).cUnits=n:=by
  first | exact⟨0,by decide,rfl⟩ | exact⟨1,by decide,rfl⟩ | exact⟨2,by decide,rfl⟩ | exact⟨3,by decide,rfl⟩ | exact⟨4,by decide,rfl⟩ | exact⟨5,by decide,rfl⟩ | exact⟨6,by decide,rfl⟩
 revert e;refine ab fun n h1 h2=>?_
 omega
variable{e:Value}
theorem lu.around{A':Around}{x:Internal.X}{G:List Addr→Prop}(q:lu K P A h0 s σ Z H x e G)(h:A'.frames=A.frames)(hh:A'.handled=A.handled:=by rfl):lu K P A' h0 s σ Z H x e G:=by
 obtain⟨a,Y,o,fs,t,vs,e1,e2,e3,e4,e5,e6,e7,e8,e9,e10,e11,e12,e13,e14⟩:=q;exact⟨a,Y,o,fs,t,vs,e1,e2,e3,e4.around h hh,e5,e6,e7,e8,e9,e10,e11,e12,e13,e14⟩
theorem mj{C N:Addr}{fI:Addr}{oI:Obj}(c:kH K C N)(hi:nsIn K N "__init__"=some (some (.ref fI)))(hfI:K.lookup fI=some oI)(hfc:oI.cls=.type "function")(h:Pr prog w K (d+1) hd (.ins C H.length::us) (fun vs=>call (.ref fI) vs) (H++[.n [] []]) (fun u H'=>u=.none∧k (.ins C H.length) H') kx):
  Pr prog w K (d+2) hd us (fun vs=>call (.ref C) vs) H k kx:=by
 intro A σ Z s vs Q E hA S hv hQ hE;obtain⟨nm,q,bs,sn,sub,col,d2,k0,k1,k2,k3,k5,hC⟩:=c.obj;obtain⟨hp,g,dr,t,os⟩:=s;refine wpAny_call_obj_init PySem.F.objNew (S.at hC) (c.nsAt S.kin) (dH S.kin (c.nsAt S.kin) hi) (S.at hfI) hfc fun h' x dx Mk=>?_;obtain⟨o,ho,hcl,hnc,hdd⟩:=Mk.inst;have hdx:=Mk.dict o ho
 have hn1:dx≠x∧h'.Ns1 dx fun J=>none:=by
  rcases hdd with ⟨e,_⟩ | ⟨dx',e,hne,hn1⟩
  ·rw[hdx] at e;exists e
  ·rw[hdx] at e;exists e;exact⟨hne,hn1⟩
 have new:∀ a,hp.get? a=none→378≤a∧a∉σ∧a∉Z:=fun a e=>by
  refine⟨?_,fun q=>?_,fun q=>?_⟩
  ·rcases Nat.lt_or_ge a 378 with q | q
   ·refine af (fun o e'=>?_) (S.bs.low a q);rw[(show hp.get? a=_ from e')] at e;exists e
   ·exact q
  ·refine af (fun o e'=>?_) (S.sd q);rw[(show hp.get? a=_ from e')] at e;exists e
  ·refine af (fun o e'=>?_) (S.zd a q);rw[(show hp.get? a=_ from e')] at e;exists e
 refine gT (fun x8 xσ xZ=>?_) (new x Mk.newX);refine gT (fun d8 dσ dZ=>?_) (new dx Mk.newD);have g0:Go Z σ [] (⟨hp,g,dr,t,os⟩:Shared) σ ⟨h',g,dr,t,os⟩:=.of ⟨fun b o e J J J=>Mk.keeps b o e,fun b o e=>⟨o,Mk.keeps b o e,fun h=>h⟩,⟨[],by walk_at "s",fun J h=>nomatch h⟩,rfl,rfl⟩;have g1:Go Z σ [] (⟨hp,g,dr,t,os⟩:Shared) (σ++[dx]) ⟨h',g,dr,t,os⟩:=.of ⟨fun b o e J J J=>Mk.keeps b o e,fun b o e=>⟨o,Mk.keeps b o e,fun h=>h⟩,⟨[dx],rfl,fun a h=>by rw[List.mem_singleton.mp h];exact Mk.newD⟩,rfl,rfl⟩;have S0:St K w.params A σ Z H ⟨h',g,dr,t,os⟩:=S.go g0 (fun J h=>nomatch h) fun a o J e=>Mk.keeps a o e;have hf:=g1.keepFz (Z:=Z) fun J h=>nomatch h
 have S1:St K w.params A (σ++[dx]) Z (H++[.n [] []]) ⟨h',g,dr,t,os⟩:=by
  refine⟨S0.kin,S0.kb,S0.bs,fun a h=>?_,S0.kz,S0.zd,?_,?_,fun a h q=>?_,fun r l e=>?_,S0.gens,S0.fr,S.tb.tr hf fun o e=>Mk.keeps _ _ e,S.hx.tr rfl hf⟩
  ·rcases List.mem_append.mp h with h | h
   ·exact S.ks a h
   ·rw[List.mem_singleton.mp h];exact d8
  ·rw[List.length_append,List.length_append,S.len];rfl
  ·refine List.nodup_append.mpr ⟨S.nd,List.nodup_cons.mpr ⟨List.not_mem_nil,List.nodup_nil⟩,fun a h b hb e=>?_⟩;rw[List.mem_singleton.mp hb] at e;exact dσ (e▸h)
  ·rcases List.mem_append.mp h with h | h
   ·exact S.apart a h q
   ·exact dZ ((List.mem_singleton.mp h)▸q)
  ·rcases Nat.lt_or_ge r H.length with hr | hr
   ·rw[List.getElem?_append_left hr] at e;refine ab (fun a e1 q=>?_) (S.hr r l e);refine⟨a,?_,q.tr hf g1.sig fun o e=>Mk.keeps a o e⟩;rw[List.getElem?_append_left (S.len.symm▸hr)];exact e1
   ·have hr2:r=H.length:=by
     have:=(List.getElem?_eq_some_iff.mp e).1;rw[List.length_append,List.length_singleton] at this;omega
    subst hr2;have:l=.n [] []:=by simpa using e.symm
    subst this;refine⟨dx,by rw[←S.len];simp,[],⟨rfl,hn1.2⟩,ak.nil⟩
 have hA':cF (A.under (.builtin "type.__call__" ⟨.ref C::vs,[]⟩)) (d+1) hd:=by
  refine⟨?_,?_,hA.none,hA.guards,hA.top⟩
  ·have:=hA.depth;have e:(Code.builtin "type.__call__" ⟨.ref C::vs,[]⟩).weight≤1:=kQ C vs;show A.depth+(Code.builtin "type.__call__" ⟨.ref C::vs,[]⟩).weight+2 * (d+1) < _;omega
  ·have:=hA.units;have e:(Code.builtin "type.__call__" ⟨.ref C::vs,[]⟩).cUnits≤10:=mF C vs;show A.units+(Code.builtin "type.__call__" ⟨.ref C::vs,[]⟩).cUnits+40 * (d+1) < _;omega
 have hvx:ak w.params h' (σ++[dx]) Z (.ins C H.length::us) (.ref x::vs):=by
  refine⟨_,vs,rfl,?_,ak.go g1 (fun J h=>nomatch h) us hv⟩;exact⟨x,dx,o,rfl,⟨x8,fun q=>(List.mem_append.mp q).elim xσ fun q=>hn1.1 (List.mem_singleton.mp q).symm,xZ⟩,ho,⟨hcl,hnc,hdx⟩,hn1.1,by rw[←S.len];simp⟩
 refine h (A.under (.builtin "type.__call__" ⟨.ref C::vs,[]⟩)) (σ++[dx]) Z ⟨h',g,dr,t,os⟩ (.ref x::vs) _ _ hA' (S1.around rfl) hvx (fun v s' σ' u H' g' S' hu hk=>?_) (fun e s' σ' y H' g' S' hx=>?_)
 ·revert hk;refine am fun q hk=>?_;obtain rfl:=q
  subst hu;refine⟨rfl,hQ (.ref x) s' σ' (.ins C H.length) H' (g1.trans g') (S'.around rfl) ?_ hk⟩
  revert hvx;refine ee fun J J e hx J=>?_
  exists e;exact VR.go g' (fun J h=>nomatch h) _ hx
 ·exact hE e s' σ' y H' (g1.trans g') (S'.around rfl) ((hx.old g1).around rfl)
section
open Builtin Builtin.ObjectAttr
theorem pz:entryFor table "object.__getattribute__"=some Builtin.«object.__getattribute__»:=entryFor_of_tree ⋯
theorem pA:entryFor table "object.__setattr__"=some Builtin.«object.__setattr__»:=entryFor_of_tree ⋯
theorem fQ:Slot "function" "__getattribute__" "object.__getattribute__":=
 .of (owner:="object") (n:="__getattribute__") (by rw[typeLookup_type,builtinLookup_eq_fast];kernel_rfl) ∅ ∅ ∅
  (by first | exact .inl ∅ | exact .inr ∅) (by rw[isSubtype_type];kernel_rfl)
theorem lH:Slot "function" "__setattr__" "object.__setattr__":=
 .of (owner:="object") (n:="__setattr__") (by rw[typeLookup_type,builtinLookup_eq_fast];kernel_rfl) ∅ ∅ ∅
  (by first | exact .inl ∅ | exact .inr ∅) (by rw[isSubtype_type];kernel_rfl)
theorem pB:typeLookup (.type "function") "__getattr__"=pure none:=by rw[typeLookup_type,builtinLookup_eq_fast];kernel_rfl
theorem qT(a b:Value):argsOk "object.__getattribute__" ⟨[a,b],[]⟩:=by unfold argsOk;kernel_rfl
theorem qU(a b c:Value):argsOk "object.__setattr__" ⟨[a,b,c],[]⟩:=by unfold argsOk;kernel_rfl
theorem vT:mroOf (.type "function")=pure [.type "function",.type "object"]:=by rw[mroOf_type];kernel_rfl
variable{g:Array GenState}{d:Drawn}{t:Nat}{os:OsState}
variable{dx:Addr}{o:Obj}{mA:Str→Option Value}{tk:Tok}{Q:Fin→Shared→Prop}
theorem mZ(hx:h.get? a=some o)(hc:o.cls=.type "function")(hdat:o.data=.func fd)(hdx:o.dict=some dx)(hns:h.Ns dx mA)(hv:mA name=some v)(hB:typeLookup (.type "function") name=pure none)(hq:Q (.done (.ret v)) ⟨h,g,d,t,os⟩):
  wpAny (model prog w) A (Builtin.«object.__getattribute__» ⟨[.ref a,.str name tk],[]⟩) Q E ⟨h,g,d,t,os⟩:=by
 have hT:(⟨h,g,d,t,os⟩:Shared).TypeIs (.ref a) "function":=⟨_,hx,hc⟩;unfold Builtin.«object.__getattribute__»
 repeat (any_goals (first | assumption | (with_reducible refine wpAny_loadPart_at hx ?_;rw[hc]) | wp_step))
 rw[hdat]
 repeat (any_goals (first | assumption | wp_step))
 rw[hc];dsimp only;rw[hdx]
 repeat (any_goals (first | assumption | (with_reducible refine wpAny_nsGet hns ?_;rw[hv]) | wp_step))
theorem sq{expr:Bool}{Q:Value→Shared→Prop}(hx:h.get? a=some o)(hc:o.cls=.type "function")(hdat:o.data=.func fd)(hdx:o.dict=some dx)(hns:h.Ns dx mA)(hv:mA name=some v)(hB:typeLookup (.type "function") name=pure none)(hh:handedOut v=pure v)(hq:Q v ⟨h,g,d,t+1,os⟩):wpAny (model prog w) A (getAttr (.ref a) name expr) Q E ⟨h,g,d,t,os⟩:=by
 obtain⟨oc,od,odt,osl⟩:=o;simp only at hc hdat hdx;subst hc hdat hdx;have hT:∀ tk',(⟨h,g,d,tk',os⟩:Shared).TypeIs (.ref a) "function":=fun J=>⟨_,hx,rfl⟩;have f3:=fQ.lookup;have f4:=fQ.bind (.ref a);have f5:=pB;unfold getAttr getAttrBy;cases expr
 all_goals repeat (any_goals (first | assumption | exact hT _ | ((with_reducible show wpAny _ _ (call (Value.builtin "object.__getattribute__") _ _) _ _ _);refine wpAny_call_entry fQ (hT _) pz (mZ hx rfl rfl rfl hns hv hB ?_) (qT _ _)) | wp_step))
 all_goals
  refine⟨v,rfl,?_⟩;show wpAny _ _ (handedOut v) _ _ _;rw[hh];exact wpAny_pure hq
theorem kO(hx:h.get? a=some o)(hc:o.cls=.type "function")(hdat:o.data=.func fd)(hdx:o.dict=none)(hB:typeLookup (.type "function") name=pure none)(hq:∀ h' tk',h'.get? a=some {o with dict:=some h.objs.size}→h'.Ns1 h.objs.size (fun y=>if y=name then some v else none)→(∀ b o,b≠a→h.get? b=some o→h'.get? b=some o)→Q (.done (.ret .none)) ⟨h',g,d,tk',os⟩):
  wpAny (model prog w) A (Builtin.«object.__setattr__» ⟨[.ref a,.str name tk,v],[]⟩) Q E ⟨h,g,d,t,os⟩:=by
 have hT:(⟨h,g,d,t,os⟩:Shared).TypeIs (.ref a) "function":=⟨_,hx,hc⟩;have hm:=vT;unfold Builtin.«object.__setattr__»
 repeat (any_goals (first | assumption | (with_reducible refine wpAny_loadPart_at hx ?_;rw[hc]) | wp_step))
 have hxs:a≠h.objs.size:=Nat.ne_of_lt (Heap.lt_size hx);have hx₁:(h.push {cls:=.type "dict",data:=.dict #[]}).get? a=some o:=Heap.get?_push_of_some _ hx;rw[hdx];dsimp only;rw[if_neg ∅,hdat];dsimp only;refine wpAny_bind (wpAny_alloc' (wpAny_bind (wpAny_update' hx₁ ?_)));refine wpAny_of_eq (show dictMade (.type "function") a h.objs.size=pure (some h.objs.size) from by kernel_rfl) ?_
 have hgd:((h.push {cls:=.type "dict",data:=.dict #[]}).update a fun o=>{cls:=o.cls,dict:=some h.objs.size,data:=o.data,slots:=o.slots}).get? h.objs.size
   =some {cls:=.type "dict",data:=.dict #[]}:=(Heap.get?_update_ne _ _ _ _ hxs.symm).trans (Heap.get?_push_at rfl rfl)
 have hnd:((h.push {cls:=.type "dict",data:=.dict #[]}).update a fun o=>{cls:=o.cls,dict:=some h.objs.size,data:=o.data,slots:=o.slots}).Ns h.objs.size (fun J=>none):=
  ⟨_, #[],_,hgd,rfl,fun e he=>absurd he (by simp),fun J=>rfl⟩
 show wpAny _ _ (storeInDict h.objs.size (.str name tk) name v) _ _ _;unfold storeInDict newKeyGuard;refine wpAny_bind (wpAny_pure (wpAny_bind (wpAny_nsSet1 (Heap.Ns1.of_empty hnd) fun h' hn' hs=>?_)));obtain⟨oD,esD,epD,hoD,hdD,hcD⟩:=hn'.count (Within.cons name v Within.nil);refine wpAny_bind (wpAny_lookBehind hoD (by rw[hdD];exact pastItsLine_dict (Nat.le_trans hcD (by rw[List.length_cons,List.length_nil,sizeLine_eq];omega))) ?_)
 wp_walk
 refine hq h' _ ((hs.2 a hxs).trans (Heap.get?_update_self _ hx₁ ?_)) hn' fun b ob hba hb=>(hs.2 b (Nat.ne_of_lt (Heap.lt_size hb))).trans ((Heap.get?_update_ne _ _ _ _ hba).trans (Heap.get?_push_of_some _ hb));show Obj.isFreed _=false;unfold Obj.isFreed;rw[hdat]
theorem kP{ns:List Str}(hx:h.get? a=some o)(hc:o.cls=.type "function")(hdat:o.data=.func fd)(hdx:o.dict=some dx)(hns:h.Ns1 dx mA)(hB:typeLookup (.type "function") name=pure none)(hw:Within mA ns)(hsz:ns.length≤1000)(hq:∀ h' tk',h'.Ns1 dx (fun y=>if y=name then some v else mA y)→(∀ b o,b≠dx→h.get? b=some o→h'.get? b=some o)→Q (.done (.ret .none)) ⟨h',g,d,tk',os⟩):
  wpAny (model prog w) A (Builtin.«object.__setattr__» ⟨[.ref a,.str name tk,v],[]⟩) Q E ⟨h,g,d,t,os⟩:=by
 have hT:(⟨h,g,d,t,os⟩:Shared).TypeIs (.ref a) "function":=⟨_,hx,hc⟩;have hm:=vT;unfold Builtin.«object.__setattr__»
 repeat (any_goals (first | assumption | (with_reducible refine wpAny_loadPart_at hx ?_;rw[hc]) | wp_step))
 rw[hdx];dsimp only;refine wpAny_pure ?_;show wpAny _ _ (storeInDict dx (.str name tk) name v) _ _ _;unfold storeInDict newKeyGuard;refine wpAny_bind (wpAny_pure (wpAny_bind (wpAny_nsSet1 hns fun h' hn' hs=>?_)));obtain⟨oD,esD,epD,hoD,hdD,hcD⟩:=hn'.count (Within.cons name v hw);refine wpAny_bind (wpAny_lookBehind hoD (by rw[hdD];exact pastItsLine_dict (Nat.le_trans hcD (by rw[List.length_cons,sizeLine_eq];omega))) ?_)
 wp_walk
 exact hq h' _ hn' fun b ob hb e=>(hs.2 b hb).trans e
theorem lG{Q:Unit→Shared→Prop}(hx:h.get? a=some o)(hc:o.cls=.type "function")(he:wpAny (model prog w) A.in1 (Builtin.«object.__setattr__» ⟨[.ref a,.str name t,v],[]⟩) (fun fin s'=>match fin with | .done (.ret _)=>Q () s' | _=>False) E ⟨h,g,d,t+1,os⟩):wpAny (model prog w) A (setAttr (.ref a) name v) Q E ⟨h,g,d,t,os⟩:=by
 have hT:(⟨h,g,d,t+1,os⟩:Shared).TypeIs (.ref a) "function":=⟨_,hx,hc⟩;unfold setAttr;refine wpAny_bind (wpAny_mkText ?_);refine wpAny_bind (wpAny_callSpecial?_slot (name:=Str.ofString "__setattr__") hT lH (wpAny_call_entry lH hT pA ?_ (qU _ _ _)));refine wpAny_mono he (fun fin s' q=>?_) fun J J q=>q;rcases fin with (_ | _ | _ | v') | _ <;> first | exact q.elim | skip
 exact⟨v',rfl,wpAny_pure q⟩
theorem km:Slot "method_descriptor" "__get__" "method_descriptor.__get__":=.of (owner:="method_descriptor") (n:="__get__") (by rw[typeLookup_type,builtinLookup_eq_fast];kernel_rfl) ∅ ∅ ∅
 (by first | exact .inl ∅ | exact .inr ∅) (by rw[isSubtype_type];kernel_rfl)
theorem oK:entryFor table "method_descriptor.__get__"=some Builtin.«method_descriptor.__get__»:=entryFor_of_tree ⋯
theorem pP(a b c:Value):argsOk "method_descriptor.__get__" ⟨[a,b,c],[]⟩:=by unfold argsOk;kernel_rfl
variable{xs:Array Value}{k:Nat}
theorem vb(hx:h.get? a=some {cls:=.type "list",dict:=none,data:=.seq xs k,slots:= #[]})(hq:Q (.done (.ret (.ref h.objs.size))) ⟨h.push {cls:=.type "builtin_function_or_method",data:=.fields #[.builtin "list.append",.ref a]},g,d,t,os⟩):
  wpAny (model prog w) A (Builtin.«object.__getattribute__» ⟨[.ref a,.str (Str.ofString "append") tk],[]⟩) Q E ⟨h,g,d,t,os⟩:=by
 have hT:(⟨h,g,d,t,os⟩:Shared).TypeIs (.ref a) "list":=⟨_,hx,rfl⟩;have f1:=F.slot_list_append.lookup;have f2:=F.type_list_append;have f3:typeLookup (.type "method_descriptor") "__get__"=pure (some (.builtin "method_descriptor.__get__")):=by rw[typeLookup_type,builtinLookup_eq_fast];kernel_rfl
 have f4:typeLookup (.type "method_descriptor") "__set__"=pure none:=by rw[typeLookup_type,builtinLookup_eq_fast];kernel_rfl
 have f5:typeLookup (.type "method_descriptor") "__delete__"=pure none:=by rw[typeLookup_type,builtinLookup_eq_fast];kernel_rfl
 unfold Builtin.«object.__getattribute__»
 repeat (any_goals (first | assumption | wp_step))
 refine codeAny_call_builtin km.plain oK (km.check _ _ _ _ _ _ _ _ (by show _=_;rw[F.type_list_append]) (pP _ _ _) ?_);unfold Builtin.«method_descriptor.__get__»
 repeat (any_goals (first | assumption | wp_step))
 rw[show(".".intercalate ("list.append".cutAt '.').dropLast)="list" from by walk_at "k"];refine wpAny_of_eq (show isSubtype (.type "list") (.type "list")=pure true from by rw[isSubtype_type];kernel_rfl) ?_
 repeat (any_goals (first | assumption | wp_step))
variable{Q:Value→Shared→Prop}
theorem xq(hx:h.get? a=some {cls:=.type "list",dict:=none,data:=.seq xs k,slots:= #[]})(hq:Q (.ref h.objs.size) ⟨h.push {cls:=.type "builtin_function_or_method",data:=.fields #[.builtin "list.append",.ref a]},g,d,t+1,os⟩):
  wpAny (model prog w) A (getAttr (.ref a) (Str.ofString "append") true) Q E ⟨h,g,d,t,os⟩:=by
 have hT:∀ tk',(⟨h,g,d,tk',os⟩:Shared).TypeIs (.ref a) "list":=fun J=>⟨_,hx,rfl⟩;have f3:=F.slot_list_getattribute.lookup;have f4:=F.slot_list_getattribute.bind (.ref a);have f5:=am_list_getattr_none;unfold getAttr getAttrBy
 repeat (any_goals (first | assumption | exact hT _ | ((with_reducible show wpAny _ _ (call (Value.builtin "list.__getattribute__") _ _) _ _ _);refine wpAny_call_entry F.slot_list_getattribute (hT _) am_entry_list_getattribute (vb hx ?_) (F.args_list_getattribute_2 _ _)) | wp_step))
 refine⟨_,rfl,?_⟩;show wpAny _ _ (handedOut _) _ _ _;exact wpAny_pure hq
variable{b:Addr}
theorem xo{x:Value}(hx:h.get? b=some {cls:=.type "builtin_function_or_method",data:=.fields #[.builtin "list.append",.ref a]})(hl:h.get? a=some {cls:=.type "list",dict:=none,data:=.seq xs k,slots:= #[]})(hq:codeAny (model prog w) A (.builtin "list.append" ⟨[.ref a,x],[]⟩) (fun r s'=>match r with | .ok (.ret v)=>Q v s' | .ok _=>False | .error e=>E e s') ⟨h,g,d,t,os⟩):wpAny (model prog w) A (call (.ref b) [x]) Q E ⟨h,g,d,t,os⟩:=by
 have hT:(⟨h,g,d,t,os⟩:Shared).TypeIs (.ref b) "builtin_function_or_method":=⟨_,hx,rfl⟩;have hTa:(⟨h,g,d,t,os⟩:Shared).TypeIs (.ref a) "list":=⟨_,hl,rfl⟩;refine wpAny_call (codeAny_of_tree ?_);show wpAny _ _ (callAny (.ref b) _) _ _ _
 repeat (any_goals (first | assumption | with_reducible refine wpAny_loadPart_at hx ?_ | wp_step))
 refine wpAny_of_eq (show isSubtype (.type "list") (.type "module")=pure false from by rw[isSubtype_type];kernel_rfl) ?_;rw[if_neg ∅]
 repeat (any_goals (first | assumption | with_reducible refine wpAny_loadPart_at hl ?_ | wp_step))
 exact⟨Code.quiet_builtin _ ∅,hq⟩
theorem nv{Q:Value × List Value→Shared→Prop}(hx:h.get? a=some o)(hc:o.cls=.type "function")(hdat:o.data=.func fd)(hdx:o.dict=some dx)(hns:h.Ns dx mA)(hv:mA name=some v)(hB:typeLookup (.type "function") name=pure none)(hh:handedOut v=pure v)(hq:Q (v,[]) ⟨h,g,d,t+1,os⟩):wpAny (model prog w) A (getMethod (.ref a) name pl) Q E ⟨h,g,d,t,os⟩:=by
 obtain⟨oc,od,odt,osl⟩:=o;simp only at hc hdat hdx;subst hc hdat hdx;have hT:∀ tk',(⟨h,g,d,tk',os⟩:Shared).TypeIs (.ref a) "function":=fun J=>⟨_,hx,rfl⟩;have f3:=fQ.lookup;have f5:=pB;have hcan:=PySem.F.canon_object_ga;unfold getMethod
 repeat (any_goals (first | assumption | exact hT _ | simp only[hcan,Bool.false_eq_true,if_false] | (with_reducible show wpAny _ _ (getAttr _ _ _) _ _ _;refine sq hx rfl rfl rfl hns hv hB hh ?_) | wp_step))
end
section
open Builtin Builtin.ObjectAttr
theorem St.setNew(S:St K P A σ Z H s){D:Addr}{ob ob2:Ob}(ea:σ[r]? =some a)(hs:∀ b o,b≠a→s.heap.get? b=some o→s'.heap.get? b=some o)(hd:∀ o,s.heap.get? a=some o→∃ o',s'.heap.get? a=some o'∧(cT o=true→cT o'=true))(hD:s.heap.get? D=none)(hD8:378≤D)(hos:s'.os=s.os)(hg:s'.gens=s.gens)(hob:OR P s'.heap (σ++[D]) Z ob a)(hob2:OR P s'.heap (σ++[D]) Z ob2 D):
  Go Z σ [] s (σ++[D]) s'∧St K P A (σ++[D]) Z (H.set r ob++[ob2]) s':=by
 have ham:a∈σ:=List.mem_of_getElem? ea;have Dσ:D∉σ:=fun q=>by refine af (fun o e=>?_) (S.sd q);rw[hD] at e;exists e
 have DZ:D∉Z:=fun q=>by refine af (fun o e=>?_) (S.zd D q);rw[hD] at e;exists e
 have g:Go Z σ [] s (σ++[D]) s':=.of ⟨fun b o e J hb J=>hs b o (fun q=>hb (q▸ham)) e,fun b o e=>by
  by_cases hb:b=a
  ·subst hb;exact hd o e
  ·exact⟨o,hs b o hb e,fun h=>h⟩,⟨[D],rfl,fun b h=>by rw[List.mem_singleton.mp h];exact hD⟩,hos,hg⟩
 have low:∀ b o,b < 378→s.heap.get? b=some o→s'.heap.get? b=some o:=fun b o hb e=>hs b o (fun q=>absurd (S.ks a ham) (Nat.not_le.mpr (q▸hb))) e;have hf:=g.keepFz (Z:=Z) fun J h=>nomatch h;refine⟨g,fun b o e=>low b o (S.kb b o e).1 (S.kin b o e),S.kb,Bs.go S g (fun J h=>nomatch h),fun b h=>?_,S.kz,fun b hb=>?_,by rw[List.length_append,List.length_append,List.length_set,S.len];rfl,?_,fun b h q=>?_,fun r' l' e=>?_,hg.trans S.gens,S.fr.go g,S.tb.tr hf fun o e=>low _ o (by decide) e,S.hx.tr rfl hf⟩
 ·rcases List.mem_append.mp h with h | h
  ·exact S.ks b h
  ·rw[List.mem_singleton.mp h];exact hD8
 ·refine af (fun o e=>?_) (S.zd b hb);refine ab (fun o' e' J=>?_) (g.dom b o e);exact⟨o',e'⟩
 ·refine List.nodup_append.mpr ⟨S.nd,List.nodup_cons.mpr ⟨List.not_mem_nil,List.nodup_nil⟩,fun b h c hc e=>?_⟩;rw[List.mem_singleton.mp hc] at e;exact Dσ (e▸h)
 ·rcases List.mem_append.mp h with h | h
  ·exact S.apart b h q
  ·exact DZ ((List.mem_singleton.mp h)▸q)
 ·have hrl:r < H.length:=by rw[←S.len];exact(List.getElem?_eq_some_iff.mp ea).1
  rcases Nat.lt_or_ge r' H.length with hr | hr
  ·rw[List.getElem?_append_left (by rw[List.length_set];exact hr)] at e
   by_cases hrr:r'=r
   ·subst hrr;rw[List.getElem?_set_self hrl] at e;exists e;exact⟨a,by rw[List.getElem?_append_left (by rw[S.len];exact hr)];exact ea,hob⟩
   ·rw[List.getElem?_set_ne (Ne.symm hrr)] at e;refine ab (fun c e1 q=>?_) (S.hr r' l' e)
    have hca:c≠a:=fun q=>by
     subst q;obtain⟨h1,h2⟩:=List.getElem?_eq_some_iff.mp ea;obtain⟨h3,h4⟩:=List.getElem?_eq_some_iff.mp e1;exact hrr ((List.getElem_inj S.nd).mp (h4.trans h2.symm))
    exact⟨c,by rw[List.getElem?_append_left (by rw[S.len];exact hr)];exact e1,q.tr hf g.sig fun o e=>hs c o hca e⟩
  ·have hr2:r'=H.length:=by
    have:=(List.getElem?_eq_some_iff.mp e).1;rw[List.length_append,List.length_set,List.length_singleton] at this;omega
   subst hr2
   have:l'=ob2:=by
    rw[List.getElem?_append_right (by rw[List.length_set];exact Nat.le_refl _),List.length_set] at e
    simpa using e.symm
   subst this;exact⟨D,by rw[←S.len];simp,hob2⟩
variable{kx:X→Hp→Prop}
theorem wL(hr:H[r]? =some (.f none))(hB:typeLookup (.type "function") name=pure none)(h:k .none (H.set r (.f (some H.length))++[.n [name] [u]])):Pr prog w K d hd [.ob r,u] (sA name) H k kx:=by
 refine az fun A σ Z s o v Q E hA S hu1 hu2 hQ hE=>?_;obtain⟨a,rfl,ea⟩:=hu1;obtain⟨oo,fd,ho,hc,hdat,hdn⟩:=S.ob ea hr;obtain⟨hp,g,dr,t,os⟩:=s;show wpAny _ A (setAttr (.ref a) name v >>= fun J=>pure .none) Q E _;refine wpAny_bind (lG ho hc (kO ho hc hdat hdn hB fun h' tk' h1 h2 hk=>wpAny_pure ?_));have hD:hp.get? hp.objs.size=none:=Heap.get?_none_of_le (Nat.le_refl _);have hdd:∀ o,hp.get? a=some o→∃ o',h'.get? a=some o'∧(cT o=true→cT o'=true):=fun o e=>⟨_,h1,fun hh=>by rw[(show hp.get? a=_ from ho)] at e;exists e;exact hh⟩;have hDσ:(σ++[hp.objs.size])[H.length]? =some hp.objs.size:=by rw[←S.len];simp
 have hDn:hp.objs.size∉σ:=fun q=>by refine af (fun o e=>?_) (S.sd q);rw[(show hp.get? hp.objs.size=_ from e)] at hD;exists hD
 have gg:=fun(hob:OR w.params h' (σ++[hp.objs.size]) Z (.f (some H.length)) a) (hob2:OR w.params h' (σ++[hp.objs.size]) Z (.n [name] [u]) hp.objs.size)=>St.setNew S (s':=⟨h',g,dr,tk',os⟩) ea hk hdd hD S.size rfl rfl hob hob2
 have vu:VR w.params h' (σ++[hp.objs.size]) Z u v:=VR.tr (fun b o f e=>⟨hk b o (fun q=>f.ns (q▸List.mem_of_getElem? ea)) e,f.lo,fun q=>(List.mem_append.mp q).elim f.ns fun q=>(by rw[List.mem_singleton.mp q] at e;rw[(show hp.get? hp.objs.size=_ from e)] at hD;exists hD),f.nz⟩)
  (fun r a e=>by rw[List.getElem?_append_left (List.getElem?_eq_some_iff.mp e).1];exact e) u hu2
 obtain⟨g1,S1⟩:=gg ⟨_,fd,_,h1,hc,hdat,rfl,hDσ⟩ ⟨[v],⟨rfl,by
  have e:(fun x=>([name].zip [v]).lookup x)=fun y=>if y=name then some v else none:=by
   funext y
   rw[List.zip_cons_cons,List.lookup_cons]
   by_cases hy:y=name
   ·subst hy;simp
   ·have:(y==name)=false:=by simpa using hy
    rw[this,if_neg hy];rfl
  rw[e];exact h2⟩,ak.one vu⟩
 exact hQ .none _ _ .none _ g1 S1 VR.none' h
variable{r2:Nat}{ks:List Str}
theorem jq(hr:H[r]? =some (.f (some r2)))(hr2:H[r2]? =some (.n ks l))(hB:typeLookup (.type "function") name=pure none)(hl:ks.length≤1000)(h:k .none (H.set r2 (.n (name::ks) (u::l)))):Pr prog w K d hd [.ob r,u] (sA name) H k kx:=by
 refine az fun A σ Z s o v Q E hA S hu1 hu2 hQ hE=>?_;obtain⟨a,rfl,ea⟩:=hu1;obtain⟨oo,fd,dd,ho,hc,hdat,hdn,e2⟩:=S.ob ea hr;obtain⟨ws,hdns,hws⟩:=S.ob e2 hr2;obtain⟨hp,g,dr,t,os⟩:=s;show wpAny _ A (setAttr (.ref a) name v >>= fun J=>pure .none) Q E _;refine wpAny_bind (lG ho hc (kP ho hc hdat hdn hdns.2 hB mH hl fun h' tk' h2 hk=>wpAny_pure ?_))
 have hdd:∀ o,hp.get? dd=some o→∃ o',h'.get? dd=some o'∧(cT o=true→cT o'=true):=fun o e=>by
  refine ab (fun o' e' hd'=>?_) (jT h2.ns);exact⟨o',e',fun J=>hd'⟩
 have ham:=List.mem_of_getElem? e2
 have g1:Go Z σ [] (⟨hp,g,dr,t,os⟩:Shared) σ ⟨h',g,dr,tk',os⟩:=.of ⟨fun b o e J hb J=>hk b o (fun q=>hb (q▸ham)) e,fun b o e=>by
  by_cases hb:b=dd
  ·subst hb;exact hdd o e
  ·exact⟨o,hk b o hb e,fun h=>h⟩,⟨[],by walk_at "s",fun J h=>nomatch h⟩,rfl,rfl⟩
 have hlen:=hdns.1;refine hQ .none _ σ .none _ g1 (S.setOb' (ob:=.n (name::ks) (u::l)) e2 tk' hk hdd ⟨v::ws,⟨by simp[hlen],?_⟩,?_⟩) VR.none' h
 ·have e:(fun x=>((name::ks).zip (v::ws)).lookup x)=fun y=>if y=name then some v else (ks.zip ws).lookup y:=by
   funext y
   rw[List.zip_cons_cons,List.lookup_cons]
   by_cases hy:y=name
   ·subst hy;simp
   ·have:(y==name)=false:=by simpa using hy
    rw[this,if_neg hy]
  rw[e];exact h2
 ·exact⟨v,ws,rfl,VR.go g1 (fun J h=>nomatch h) _ hu2,ak.go g1 (fun J h=>nomatch h) _ hws⟩
theorem fg(hB:typeLookup (.type "function") name=pure none)(hu:(ks.zip l).lookup name=some u)(hb:gk u=true)(h:k u H):Pr prog w K d hd [.thg ks l] (gA name) H k kx:=by
 refine bu fun A σ Z s o Q E hA S hu1 hQ hE=>?_;obtain⟨a,dd,ws,oo,fd,rfl,f1,f2,ho,hc,hdn,hdat,hds,hws⟩:=hu1;refine ab (fun v e hv=>?_) (dF hws hu);obtain⟨hp,g,dr,t,os⟩:=s;exact sq ho hc hdat hdn hds.2.ns e hB (handed hv hb) (hQ v _ σ u H (Go.tok Z σ [] ⟨hp,g,dr,t,os⟩ (t+1)) (S.tok (t+1)) hv h)
end
section
open Builtin Builtin.ObjectAttr
variable{kx:X→Hp→Prop}
theorem gU(hr:H[r]? =some (.l l))(h:k (.bm "list.append" (.ob r)) H):Pr prog w K d hd [.ob r] (gA (Str.ofString "append")) H k kx:=by
 refine bu fun A σ Z s o Q E hA S hu1 hQ hE=>?_;obtain⟨a,rfl,ea⟩:=hu1;obtain⟨ys,⟨n,ho⟩,hys⟩:=S.ob ea hr;obtain⟨hp,g,dr,t,os⟩:=s;have g1:=Go.push Z σ (⟨hp,g,dr,t,os⟩:Shared) {cls:=.type "builtin_function_or_method",data:=.fields #[.builtin "list.append",.ref a]} (t+1);refine xq ho (hQ _ _ σ (.bm "list.append" (.ob r)) H g1 (S.push _ (t+1)) ?_ h);refine⟨hp.objs.size,.ref a,rfl,S.fresh,Heap.get?_push_size _ rfl,?_⟩;exact⟨a,rfl,ea⟩
noncomputable def cV:List Value→Sem Value
 | f::args=>call f args
 | _=>unsupported ""
theorem eM{x:V}(hr:H[r]? =some (.l l))(hl:l.length≤1000)(h:k .none (H.set r (.l (l++[x])))):Pr prog w K d hd [.bm "list.append" (.ob r),x] cV H k kx:=by
 refine az fun A σ Z s f b Q E hA S q1 q2 hQ hE=>?_;obtain⟨fa,y,rfl,ff,hfo,hy⟩:=q1;obtain⟨a,rfl,ea⟩:=hy;obtain⟨ys,hpl,hys⟩:=S.ob ea hr;refine af (fun n ho=>?_) (id hpl)
 have hsz:ys.size≤sizeLine:=by
  have e:ys.toList.length=ys.size:=by walk_at "s"
  rw[←e,←hys.length];exact Nat.le_trans hl (by decide)
 obtain⟨hp,g0,dr,t,os⟩:=s;refine xo hfo ho (codeAny_builtin entry_list_append ?_);show wpAny _ _ (updateSeq a (·.push b) >>= fun J=>ret .none) _ _ _;refine wpAny_bind (wpAny_updateSeq ho rfl (wpAny_pure ?_))
 have hu:(hp.update a (Obj.mapSeq (·.push b))).get? a=some {cls:=.type "list",data:=.seq (ys.push b) (n+1)}:=by
  rw[Heap.get?_update_self _ ho (by rw[Obj.mapSeq_push_plain];rfl),Obj.mapSeq_push_plain]
 have hs:Heap.SameBut a hp (hp.update a (Obj.mapSeq (·.push b))):=Heap.SameBut.update ..;have hdd:∀ o,hp.get? a=some o→∃ o',(hp.update a (Obj.mapSeq (·.push b))).get? a=some o'∧(cT o=true→cT o'=true):=fun o e=>⟨_,hu,fun h=>by rw[(show hp.get? a=_ from ho)] at e;exists e;exists h⟩;have g:=Go.setOb (Z:=Z) S (List.mem_of_getElem? ea) t hs hdd;refine hQ .none _ σ .none _ g (S.setOb (ob:=.l (l++[x])) ea t hs hdd ⟨ys.push b,⟨_,hu⟩,?_⟩) VR.none' h;rw[Array.toList_push];exact ak.snoc (VR.go g (fun J h=>nomatch h) _ q2) (ak.go g (fun J h=>nomatch h) _ hys)
noncomputable def Kp(K:Frag):V→Prop
 | .gl a=>keepIn K (.ref a)=true
 | .bm _ _ | .clo _ _ _=>True
 | _=>False
theorem wi{M:Model}(hk:Kp K u)(X:K.In h)(hu:VR P h σ Z u v):∃ kk,(kk=Keeper.frame∨kk=Keeper.machine∨kk=Keeper.boundFrame)∧Looks M h (keeperOf v) kk:=by
 cases u with
 | gl a=>subst hu;exact keeps_K hk h X
 | bm id x=>obtain⟨a,y,rfl,f,ho,_⟩:=hu;exact⟨.machine,.inr (.inl rfl),(Looks.ld (part:=none) ho).andThen (by show Looks M h (pure _) _;exact .now)⟩
 | clo fd ns l=>
  obtain⟨a,o,fd,cs,vs,rfl,f,ho,hc,hdd,hfd,_⟩:=hu;refine⟨.frame,.inl rfl,(Looks.ld (part:=none) ho).andThen ?_⟩;rw[hfd];exact .now
 | _=>exact hk.elim
variable{e:PySem.Expr}
theorem lF(he:starEach (e::rest) env=(false,eval e env)::starEach rest env)(hplain:(backTo pos (starEach rest env)).any (·.1)=false)(h:Ev prog w K d hd env ρ (eval (.Name x p) env) H (fun u H1=>Kp K u∧Es prog w K d hd env ρ (spliced (backTo pos (starEach (e::rest) env))) H1 (xu prog w K d hd u cV k kx) kx) kx):
  Ev prog w K d hd env ρ (eval (.Call (.Name x p) (e::rest) [] pos) env) H k kx:=by
 intro A σ Z s Q E hA S F hQ hE;refine Call_Name rfl (h A σ Z s _ _ hA S F (fun v s1 σ1 u H1 g1 S1 hu hk=>?_) hE)
 revert hk;refine am fun hkp hk=>?_
 have hplain':(((false,eval e env)::starEach rest env |> backTo pos).any (·.1) || ([]:List (Option Str × Sem Value)).any (·.1.isNone))=false:=by
  show((false || (backTo pos (starEach rest env)).any (·.1)) || false)=false;rw[hplain];rfl
 have run:=hk A σ1 Z s1 (fun vs s2=>(∃ kk,(kk=Keeper.frame∨kk=Keeper.machine∨kk=Keeper.boundFrame)∧Looks (model prog w) s2.heap (keeperOf v) kk)∧wpAny (model prog w) A (call v ([]++vs)) Q E s2) E hA S1 (F.go S g1)
  (fun vs s2 σ2 us H2 g2 S2 hus hk2=>⟨wi hkp S2.kin (VR.go g2 (fun J h=>nomatch h) _ hu),hk2 A σ2 Z s2 (v::vs) _ _ hA S2 (by exact⟨v,vs,rfl,VR.go g2 (fun J h=>nomatch h) _ hu,hus⟩)
  (hQ.go (g1.trans g2)) (hE.go (g1.trans g2))⟩)
  (hE.go g1)
 rw[he] at run ⊢;exact PySem.W.callWith_of (P:=fun h=>∃ kk,(kk=Keeper.frame∨kk=Keeper.machine∨kk=Keeper.boundFrame)∧Looks (model prog w) h (keeperOf v) kk) hplain' (fun J q=>q) (Calls.evalArgs_plain run)
noncomputable def Gt(prog:Program)(w:World)(K:Frag)(u:V)(name:Str)(uv:V)(H:Hp):Prop:=
 ∀ (A:Around) (σ Z:List Addr) (s:Shared) (v:Value) (pl:Sem Bool) (Q:Value × List Value→Shared→Prop) (E:Value→Shared→Prop),St K w.params A σ Z H s→VR w.params s.heap σ Z u v→(∀ v' t,VR w.params s.heap σ Z uv v'→Q (v',[]) {s with toks:=t})→wpAny (model prog w) A (getMethod v name pl) Q E s
theorem pt(hev:eval (.Call (.Attribute o name apos) (e::rest) [] pos) env=(do
   let ov←eval o env
   standAt apos.atName
   let (f,first)←holding [ov] (getMethod ov name pl)
   callWith pos f first (backTo pos (starEach (e::rest) env)) []))(he:starEach (e::rest) env=(false,eval e env)::starEach rest env)(hplain:(backTo pos (starEach rest env)).any (·.1)=false)(h:Ev prog w K d hd env ρ (eval o env) H (fun u H1=>∃ uv,Gt prog w K u name uv H1∧Kp K uv∧Es prog w K d hd env ρ (spliced (backTo pos (starEach (e::rest) env))) H1 (xu prog w K d hd uv cV k kx) kx) kx):
  Ev prog w K d hd env ρ (eval (.Call (.Attribute o name apos) (e::rest) [] pos) env) H k kx:=by
 intro A σ Z s Q E hA S F hQ hE;refine MethodCall_ (pl:=pl) (h A σ Z s _ _ hA S F (fun v0 s1' σ1 u H1 g1' S1' hu' hk=>?_) hE) hev
 revert hk;refine fo fun uv hgt hkp hk=>?_
 refine hgt A σ1 Z s1' v0 pl _ E S1' hu' fun v t hu=>?_;have g1:=g1'.trans (Go.tok Z σ1 [] s1' t);have S1:=S1'.tok t;have F1:=F.go S g1;generalize hs1:({s1' with toks:=t}:Shared)=s1 at g1 S1 F1 ⊢;have hu:VR w.params s1.heap σ1 Z uv v:=by rw[←hs1];exact hu
 have hplain':(((false,eval e env)::starEach rest env |> backTo pos).any (·.1) || ([]:List (Option Str × Sem Value)).any (·.1.isNone))=false:=by
  show((false || (backTo pos (starEach rest env)).any (·.1)) || false)=false;rw[hplain];rfl
 dsimp only
 have run:=hk A σ1 Z s1 (fun vs s2=>(∃ kk,(kk=Keeper.frame∨kk=Keeper.machine∨kk=Keeper.boundFrame)∧Looks (model prog w) s2.heap (keeperOf v) kk)∧wpAny (model prog w) A (call v ([]++vs)) Q E s2) E hA S1 F1
  (fun vs s2 σ2 us H2 g2 S2 hus hk2=>⟨wi hkp S2.kin (VR.go g2 (fun J h=>nomatch h) _ hu),hk2 A σ2 Z s2 (v::vs) _ _ hA S2 (by exact⟨v,vs,rfl,VR.go g2 (fun J h=>nomatch h) _ hu,hus⟩)
  (hQ.go (g1.trans g2)) (hE.go (g1.trans g2))⟩)
  (hE.go g1)
 rw[he] at run ⊢;exact PySem.W.callWith_of (P:=fun h=>∃ kk,(kk=Keeper.frame∨kk=Keeper.machine∨kk=Keeper.boundFrame)∧Looks (model prog w) h (keeperOf v) kk) hplain' (fun J q=>q) (Calls.evalArgs_plain run)
theorem rS(hev:eval (.Call (.Attribute o name apos) [] [] pos) env=(do
   let ov←eval o env
   standAt apos.atName
   let (f,first)←holding [ov] (getMethod ov name pl)
   callWith pos f first (backTo pos (starEach [] env)) []))(h:Ev prog w K d hd env ρ (eval o env) H (fun u H1=>∃ uv,Gt prog w K u name uv H1∧Kp K uv∧k uv H1) kx)(hA:cF A d hd)(S:St K w.params A σ Z H s)(F:FR w.params σ Z env ρ s.heap)(hQ:∀ v s1 σ1 uv H1,Go Z σ [] s σ1 s1→St K w.params A σ1 Z H1 s1→VR w.params s1.heap σ1 Z uv v→k uv H1→wpAny (model prog w) A (call v []) Q E s1)(hE:∀ e s' σ' x H',Go Z σ [] s σ' s'→St K w.params A σ' Z H' s'→XR K w.params A s.heap s' σ' Z H' x e→kx x H'→E e s'):wpAny (model prog w) A (eval (.Call (.Attribute o name apos) [] [] pos) env) Q E s:=by
 refine MethodCall_ (pl:=pl) (h A σ Z s _ _ hA S F (fun v0 s1' σ1 u H1 g1' S1' hu' hk=>?_) hE) hev
 revert hk;refine fo fun uv hgt hkp hk=>?_
 refine hgt A σ1 Z s1' v0 pl _ E S1' hu' fun v t hu=>?_;have g1:=g1'.trans (Go.tok Z σ1 [] s1' t);have S1:=S1'.tok t;exact PySem.W.callWith_of (P:=fun h=>∃ kk,(kk=Keeper.frame∨kk=Keeper.machine∨kk=Keeper.boundFrame)∧Looks (model prog w) h (keeperOf v) kk) rfl (fun J q=>q) (evalArgs_nil3 ⟨wi hkp S1.kin hu,hQ v _ σ1 uv H1 g1 S1 hu hk⟩)
theorem nu(hev:eval (.Call (.Attribute o name apos) [] [] pos) env=(do
   let ov←eval o env
   standAt apos.atName
   let (f,first)←holding [ov] (getMethod ov name pl)
   callWith pos f first (backTo pos (starEach [] env)) []))(h:Ev prog w K d hd env ρ (eval o env) H (fun u H1=>∃ uv,Gt prog w K u name uv H1∧Kp K uv∧Pr prog w K d hd [uv] cV H1 k kx) kx):
  Ev prog w K d hd env ρ (eval (.Call (.Attribute o name apos) [] [] pos) env) H k kx:=by
 intro A σ Z s Q E hA S F hQ hE;exact rS hev h hA S F (fun v s1 σ1 uv H1 g1 S1 hu hk=>hk A σ1 Z s1 [v] _ _ hA S1 (ak.one hu) (hQ.go g1) (hE.go g1)) hE
end
section
open Builtin Builtin.ObjectAttr
variable{kx:X→Hp→Prop}
variable{ks:List Str}{uv:V}
theorem vY(hB:typeLookup (.type "function") name=pure none)(hu:(ks.zip l).lookup name=some uv)(hb:gk uv=true):Gt prog w K (.thg ks l) name uv H:=by
 intro A σ Z s v pl Q E S hv hQ;obtain⟨a,dd,ws,oo,fd,rfl,f1,f2,ho,hc,hdn,hdat,hds,hws⟩:=hv;refine ab (fun v' e hv'=>?_) (dF hws hu);obtain⟨hp,g,dr,t,os⟩:=s;exact nv ho hc hdat hdn hds.2.ns e hB (handed hv' hb) (hQ v' (t+1) hv')
end
inductive iP:List Str→List V→ai→ai→Prop
 | nil {ρ:ai}:iP [] [] ρ ρ
 | cons {x:Str} {u:V} {xs:List Str} {us:List V} {ρ ρ1 ρ':ai}:ba x u ρ ρ1→iP xs us ρ1 ρ'→iP (x::xs) (u::us) ρ ρ'
variable{k:Fl→ai→Hp→Prop}{kx:X→ai→Hp→Prop}
set_option tactic.hygienic true in
theorem wT(hsc:Sc env sc (own env)):∀ (xs:List Str) (us:List V) (vs:List Value) (ρ ρ':ai) (H:Hp) (A:Around) (σ Z:List Addr) (s:Shared) (Q:Unit→Shared→Prop) (E:Value→Shared→Prop),iP xs us ρ ρ'→(∀ x∈xs,aG sc x=true)→St K w.params A σ Z H s→FR w.params σ Z env ρ s.heap→ak w.params s.heap σ Z us vs→
  (∀ s',Go Z σ (own env) s σ s'→St K w.params A σ Z H s'→FR w.params σ Z env ρ' s'.heap→Q () s')→wpAny (model prog w) A (assignInOrder (xs.map fun n=>bindName env n) vs) Q E s:=by
 intro xs us vs ρ ρ' H A σ Z s Q E hp
 induction hp generalizing vs s with
 | nil=>intro J S F hv hQ;exact wpAny_pure (hQ s (Go.refl ..) S F)
 | cons h1 _ ih=>
  intro hok S F hv hQ
  revert hv;refine aV fun v r q t=>?_;obtain rfl:=q;revert t;refine am fun hu hr=>?_
  rename_i x u xs us ρ0 ρ1 ρ2 _;show wpAny _ A (holding r (bindName env x v) >>= fun J=>assignInOrder (xs.map fun n=>bindName env n) r) Q E s;have hx:=hok x List.mem_cons_self;refine wpAny_bind (wpAny_holding (wpAny_bindName (eN S F hu h1 (aG.plain hx) (hsc.wr x hx) hsc.ow fun s1 g1 S1 F1=>?_)));exact ih r s1 (fun y hy=>hok y (List.mem_cons_of_mem _ hy)) S1 F1 (ak.go g1 (fun a ha=>F.ownZ a ha) _ hr) fun s' g'=>hQ s' (g1.trans g')
theorem ak.rev{P:Params}{h:Heap}{σ Z:List Addr}:∀ {l:List V} {vs:List Value},ak P h σ Z l vs→ak P h σ Z l.reverse vs.reverse
 | [],_,q=>by subst q;exact ak.nil
 | x::l,_,q=>by
  revert q;refine aV fun v r q t=>?_;obtain rfl:=q;revert t;refine am fun hx hl=>?_
  rw[List.reverse_cons,List.reverse_cons];exact ak.snoc hx (ak.rev hl)
variable{kk:Nat}{tpos:Pos}
theorem sj(hn:hd.h=true)(hsc:Sc env sc (own env))(hs:swapsWithSole [.Tuple elts kk tpos] value pos.line env=pure false)(hw:swappedStores [.Tuple elts kk tpos] value env=pure (some names))(hok:names.all (aG sc)=true)(h:Ev prog w K d hd env ρ (eval value env) H (fun u H'=>∃ us ρ',u=.tup us∧us.length=names.length∧iP names.reverse us.reverse ρ ρ'∧k .next ρ' H') (nc ρ kx)):
  Ex prog w K d hd env ρ (exec (.Assign [.Tuple elts kk tpos] value pos) env) H k kx:=by
 intro A σ Z s Q E hA S F hQ hE;refine Assign_Tuple_swapped (names:=names) (h A σ Z s _ _ hA S F (fun v s1 σ1 u H1 g1 S1 hu hk=>?_) (hE.to S F)) hs hw
 revert hk;refine aV fun us ρ' q t=>?_;obtain rfl:=q;revert t;refine gT fun hlen hp hk=>?_
 obtain⟨a,vs,rfl,f,ht,hvs⟩:=hu;have hsz:names.length=vs.size:=by rw[←hlen,hvs.length];simp
 rw[hsz];refine unpackItems_tuple (hA.none hn) ht fun h' he=>?_;have kp:∀ b o,s1.heap.get? b=some o→h'.get? b=some o:=fun b o e=>he b o (Nat.ne_of_lt (Heap.lt_size e)) e;have g:Go Z σ1 [] s1 σ1 {s1 with heap:=h'}:=.of ⟨fun b o e J J J=>kp b o e,fun b o e=>⟨o,kp b o e,fun h=>h⟩,⟨[],by walk_at "s",fun J h=>nomatch h⟩,rfl,rfl⟩;have F1:=F.go S g1;refine wT hsc names.reverse us.reverse vs.toList.reverse ρ ρ' H1 A σ1 Z {s1 with heap:=h'} _ E hp (fun x hx=>(List.all_eq_true.mp hok) x (List.mem_reverse.mp hx)) (S1.go g (fun J h=>nomatch h) fun a o J e=>kp a o e) (F1.go S1 g) (ak.rev (ak.go g (fun J h=>nomatch h) _ hvs)) fun s' g' S' F'=>?_;exact hQ .next s' σ1 .next ρ' H1 ((g1.trans g).ev g') S' F' rfl hk
variable{kx:X→ai→Hp→Prop}
theorem lx{A':Around}(S:St K P A' σ Z H s)(F:FR P σ Z env ρ s.heap)(hk:env.kindOf x=some .globalImplicit)(e:nsIn K mainGlobals x=some none)(hb:bootBuiltins x=some v)(hne:x≠"__name__")(hx:(x==("__debug__":Str))=false)(h:Q v s):wpAny (model prog w) A (eval (.Name x pos) env) Q E s:=by
 obtain⟨mg,hg⟩:=S.bs.gl;obtain⟨mb,hm,q⟩:=S.bs.bt;exact Calls.Name_function_global F.kind hk (Calls.loadGlobal_builtin (by rw[F.glob];exact hg) (mg_none_of S.kin hg e) (by rw[F.blt];exact hm) ((q x hne).trans hb) h) hx
variable{n:Str}
theorem uk{A':Around}{Q:Unit→Shared→Prop}(S:St K P A' σ Z H s)(F:FR P σ Z env ρ s.heap)(hl:env.kindOf n=some .local)(hp:∀ p∈ρ',p∈ρ∧p.1≠n)(hQ:∀ s',Go Z σ (own env) s σ s'→St K P A' σ Z H s'→FR P σ Z env ρ' s'.heap→Q () s'):
  wpAny (model prog w) A (do bindName env n .none;unbindBehindTheSuite env n pos) Q E s:=by
 have hcl:(env.scope.kind== .class || (env.scope.kind== .module&&env.locals != env.globals))=false:=by rw[F.kind];rfl
 obtain⟨m,hm,q⟩:=F.ns;refine wpAny_bind (wpAny_bindName (wpAny_storeName_local hl hm (fun h₁ hn₁ hs₁=>?_) hcl));unfold unbindBehindTheSuite;refine wpAny_onRaise ?_;unfold unbindName;refine wpAny_bind (wpAny_point (wpAny_bind ?_));unfold deleteName;simp only[hl,hcl];rw[if_neg (by decide)];refine wpAny_bind (wpAny_nsDel_keeps hn₁ fun h₂ v hn₂ hs₂=>?_);simp only[if_true,Option.isSome_some,Bool.not_true,Bool.false_eq_true,if_false];have hs:=hs₁.trans hs₂
 have g:Go Z σ (own env) s σ {s with heap:=h₂,toks:=s.toks+1}:=by
  refine .of ⟨fun b o e J J hb=>(hs.2 b fun q=>hb (q▸List.mem_cons_self)).trans e,fun b o e=>?_,⟨[],by walk_at "s",fun J h=>nomatch h⟩,rfl,rfl⟩
  by_cases hb:b=env.locals
  ·subst hb;refine ab (fun o' e' hd'=>?_) (jT hn₂);exact⟨o',e',fun J=>hd'⟩
  ·exact⟨o,(hs.2 b hb).trans e,fun h=>h⟩
 have S':=S.go g (fun a h=>F.ownZ a h) fun a o ha e=>(hs.2 a fun q=>S.apt a ha (q▸F.locZ)).trans e;refine wpAny_pure (wpAny_point (hQ _ g S' ⟨F.kind,F.glob,F.blt,⟨_,hn₂,fun y u' e1 e2=>?_⟩,fun y u' e1 e2=>?_,fun y u' e1=>F.all y u' (hp _ e1).1,F.locZ,F.celZ,F.one,fun y c e=>?_,fun y u' e1=>F.plain y u' (hp _ e1).1,F.celD⟩))
 ·refine am (fun h1 hy=>?_) (hp _ e1);refine ab (fun v' e3 hr=>?_) (q y u' h1 e2);have hy':y≠n:=hy;exact⟨v',by simp[hy',e3],VR.go g (fun a h=>F.ownZ a h) _ hr⟩
 ·refine am (fun h1 hy=>?_) (hp _ e1);refine ee (fun c v' e3 hc hr=>?_) (F.cell y u' h1 e2);exact⟨c,v',e3,cK hc fun o e'=>(hs.2 c (F.celZ y c (mem_of_lookup e3)).2).trans e',VR.go g (fun a h=>F.ownZ a h) _ hr⟩
 ·refine af (fun o hc=>?_) (F.cex y c e);exact⟨o,cK hc fun o e'=>(hs.2 c (F.celZ y c e).2).trans e'⟩
noncomputable def Hn(prog:Program)(w:World)(K:Frag)(d:Nat)(hd:Hd)(env:Env)(x:X)(ρ:ai)(hs:List ExceptHandler)(H:Hp)(k:Fl→ai→Hp→Prop)(kx:X→ai→Hp→Prop):Prop:=
 ∀ (A:Around) (σ0 σ Z:List Addr) (s0 s:Shared) (e fl:Value) (Q:Flow→Shared→Prop) (E:Value→Shared→Prop),cF A d hd→(∀ a∈Z,∃ o,s0.heap.get? a=some o)→(∀ x c,(x,c)∈env.cells→∃ o,s0.heap.get? c=some o)→Go Z σ0 (own env) s0 σ s→St K w.params A σ Z H s→FR w.params σ Z env ρ s.heap→
  nY K w.params A s0.heap s σ Z H x e fl (fun Y=>FR w.params σ (Y++Z) env ρ s.heap)→
  (∀ f s' σ' fl ρ' H',Go Z σ0 (own env) s0 σ' s'→St K w.params A σ' Z H' s'→FR w.params σ' Z env ρ' s'.heap→zI w.params s'.heap σ' Z fl f→k fl ρ' H'→Q f s')→
  (∀ e s' σ' x ρ' H',Go Z σ0 (own env) s0 σ' s'→St K w.params A σ' Z H' s'→FR w.params σ' Z env ρ' s'.heap→lu K w.params A s0.heap s' σ' Z H' x e (fun Y=>FR w.params σ' (Y++Z) env ρ' s'.heap)→kx x ρ' H'→E e s')→wpAny (model prog w) A (handleBy e env hs) Q E s
variable{h₀:ExceptHandler}{hs:List ExceptHandler}
theorem cz(ht:hd.top=some env)(h:Ex prog w K d hd env ρ (execs body env) H k (fun x ρ' H'=>Hn prog w K d hd env x ρ' (h₀::hs) H' k kx)):
  Ex prog w K d hd env ρ (exec (.Try body (h₀::hs) [] [] pos) env) H k kx:=by
 intro A σ Z s Q E hA S F hQ hE;refine af (fun outer hfr=>?_) (hA.top env ht);refine wpAny_Try_except (h A σ Z s _ _ hA S F (fun f s1 σ1 fl ρ1 H1 g1 S1 F1 hf hk=>?_) (fun e s1 σ1 x ρ1 H1 g1 S1 F1 hx hk=>?_))
 ·have q:=hQ f s1 σ1 fl ρ1 H1 g1 S1 F1 hf hk;cases f <;> first | exact q | exact wpAny_execs_nil q
 ·have hc0:∀ x c,(x,c)∈env.cells→∃ o,s.heap.get? c=some o:=fun x c h=>let ⟨_,o,e,_⟩:=F.cex x c h;⟨o,e⟩;refine rj hfr g1 S.zd hc0 S1 F1 hx fun s2 fl g2 S2 F2 x2=>?_;refine pu hfr g2 S.zd hc0 S2 F2 x2 fun s3 g3 S3 F3 x3=>?_;exact hk A σ σ1 Z s s3 e _ Q E hA S.zd hc0 g3 S3 F3 x3 hQ hE
theorem nY.held{σ0 X:List Addr}{x:Internal.X}{G:List Addr→Prop}(hz0:∀ a∈Z,∃ o,s0.heap.get? a=some o)(hx:nY K P A s0.heap s σ Z H x e fl G):
  VR P s.heap σ Z (.exc x.cls x.args) e∧Cx s.heap σ Z e∧(∃ a,e=.ref a)∧s.TypeIs e x.cls:=by
 obtain⟨a,Y,o,fs,t,vs,rfl,aY,hY,SY,ho,hc,hd,h0,ft,ht,hvs,_,⟨c,h2,hc2⟩,_⟩:=hx;have f:Fz σ Z a:=⟨SY.kz a (List.mem_append_left _ aY),fun q=>SY.apart a q (List.mem_append_left _ aY),fun q=>by refine af (fun o e=>?_) (hz0 a q);rw[hY a aY] at e;exists e⟩;have m:∀ b∈Z,b∈Y++Z:=fun b h=>List.mem_append_right _ h;refine⟨?_,.ref f ho hd h2 (hc2.tr fun a o f e=>⟨e,f.mono m⟩),⟨a,rfl⟩,⟨o,ho,hc⟩⟩;exact⟨a,o,fs,t,vs,rfl,f,ho,hc,hd,h0,ft.mono m,ht,ak.mono m _ hvs⟩
theorem St.mark(S:St K P A σ Z H s)(hc:Cx s.heap σ Z e)(hn:e≠ .none):St K P (A.mark (some e)) σ Z H s:=
 ⟨S.kin,S.kb,S.bs,S.ks,S.kz,S.zd,S.len,S.nd,S.apart,S.hr,S.gens,S.fr.tr rfl (fun J h=>h) fun J o J e=>⟨o,e,fun h=>h⟩,S.tb,fun v q=>by
  have q':(some e).or A.handled=some v:=q;exists q';exact⟨hc,hn⟩⟩
theorem St.unmark(S:St K P (A.mark (some e)) σ Z H s)(hx:uY A σ Z s.heap):St K P A σ Z H s:=
 ⟨S.kin,S.kb,S.bs,S.ks,S.kz,S.zd,S.len,S.nd,S.apart,S.hr,S.gens,S.fr.tr rfl (fun J h=>h) fun J o J e=>⟨o,e,fun h=>h⟩,S.tb,hx⟩
theorem nY.unmark{X:List Addr}{s1:Shared}{e0:Value}{x:Internal.X}{G:List Addr→Prop}{H1:Hp}(g:Go Z σ0 X s0 σ s)(hX:∀ a∈X,a∈Z)(S0:St K P A σ0 Z H1 s0)(hx:nY K P (A.mark (some e0)) s0.heap s σ Z H x e fl G):
  nY K P A s0.heap s σ Z H x e fl G:=by
 obtain⟨a,Y,o,fs,t,vs,e1,aY,hY,SY,r2,r3,r4,r5,r6,r7,r8,r9,r10,r11⟩:=hx;exact⟨a,Y,o,fs,t,vs,e1,aY,hY,SY.unmark (S0.hx.tr rfl fun b o f e=>⟨g.get hX e f,Fz.grow (g.fz e f) (h:=s0.heap) hY e⟩),r2,r3,r4,r5,r6,r7,r8,r9,r10,r11⟩
theorem nY.old{Z0 X0:List Addr}{x:Internal.X}{G:List Addr→Prop}(q:nY K P A s1.heap s σ Z H x e fl G)(g:Go Z0 σ0 X0 s0 σ1 s1):nY K P A s0.heap s σ Z H x e fl G:=by
 obtain⟨a,Y,o,fs,t,vs,e1,e2,e3,r1,r2,r3,r4,r5,r6,r7,r8,r9,r10,r11⟩:=q;exact⟨a,Y,o,fs,t,vs,e1,e2,fun b hb=>g.none (e3 b hb),r1,r2,r3,r4,r5,r6,r7,r8,r9,r10,r11⟩
theorem nY.keep{x:Internal.X}{G G':List Addr→Prop}(q:nY K P A h0 s σ Z H x e fl G)(hk:∀ b o,s.heap.get? b=some o→s1.heap.get? b=some o)(hS:∀ Y,St K P A σ (Y++Z) H s→St K P A σ (Y++Z) H s1)(hG:∀ Y,St K P A σ (Y++Z) H s→G Y→G' Y):nY K P A h0 s1 σ Z H x e fl G':=by
 obtain⟨a,Y,o,fs,t,vs,e1,e2,e3,e4,e5,e6,e7,e8,e9,⟨ot,h1,h2⟩,e11,⟨T,oT,ts,t1,t2,t3,t4,t5,t6⟩,⟨c,e12,e13⟩,hg⟩:=q;exact⟨a,Y,o,fs,t,vs,e1,e2,e3,hS Y e4,hk _ _ e5,e6,e7,e8,e9,⟨ot,hk _ _ h1,h2⟩,ak.tr (fun a o f e=>⟨hk _ _ e,f⟩) (fun J J h=>h) _ e11,⟨T,oT,ts,t1,t2,t3,hk _ _ t4,t5,t6⟩,⟨c,e12,e13.tr fun a o f e=>⟨hk _ _ e,f⟩⟩,hG Y e4 hg⟩
theorem cF.mark(hA:cF A d hd):cF (A.mark (some e)) d ⟨false,hd.top⟩:=⟨hA.depth,hA.units,(fun h=>nomatch h),hA.guards,hA.top⟩
variable{tn:Str}{b₀:Stmt}{suite:List Stmt}{rest:List ExceptHandler}
theorem oz{x:X}{T:String}(hexc:isSubtype (.type T) (.type "BaseException")=pure true)(hnt:isSubtype (.type ((Manifest.find? T).elim "type" fun x=>x.metatype)) (.type "tuple")=pure false)(hsub:isSubtype (.type x.cls) (.type T)=pure false)(hk:env.kindOf tn=some .globalImplicit)(e:nsIn K mainGlobals tn=some none)(hb:bootBuiltins tn=some (.type T))(hne:tn≠"__name__")(hx:(tn==("__debug__":Str))=false)(h:Hn prog w K d hd env x ρ rest H k kx):Hn prog w K d hd env x ρ (.ExceptHandler (some (.Name tn tpos)) (some n) (b₀::suite) pos::rest) H k kx:=by
 intro A σ0 σ Z s0 s ex fl Q E hA hz0 hc0 g S F hxf hQ hE;refine fY (fun J J q hT=>?_) (hxf.held (X:=[]) (σ0:=σ0) hz0);revert q;refine af fun a t=>?_;obtain rfl:=t;refine wpAny_handleBy_builtin_as hexc hnt hsub (lx S F hk e hb hne hx ⟨rfl,hT,?_⟩);rw[if_neg (by decide)];exact h A σ0 σ Z s0 s _ fl Q E hA hz0 hc0 g S F hxf hQ hE
theorem qX(ht:hd.top=some env)(hsc:Sc env sc (own env)){x:X}{T:String}{ρ1:ai}(hexc:isSubtype (.type T) (.type "BaseException")=pure true)(hnt:isSubtype (.type ((Manifest.find? T).elim "type" fun x=>x.metatype)) (.type "tuple")=pure false)(hsub:isSubtype (.type x.cls) (.type T)=pure true)(hk:env.kindOf tn=some .globalImplicit)(e:nsIn K mainGlobals tn=some none)(hb:bootBuiltins tn=some (.type T))(hne:tn≠"__name__")(hx:(tn==("__debug__":Str))=false)(hok:aG sc n=true)(hnl:env.kindOf n=some .local)(hp:ba n (.exc x.cls x.args) ρ ρ1)(h:Ex prog w K d ⟨false,hd.top⟩ env ρ1 (execs (b₀::suite) env) H (fun fl ρ2 H'=>∃ ρ3,(∀ p∈ρ3,p∈ρ2∧p.1≠n)∧k fl ρ3 H') (fun J J J=>False)):
  Hn prog w K d hd env x ρ (.ExceptHandler (some (.Name tn tpos)) (some n) (b₀::suite) pos::rest) H k kx:=by
 intro A σ0 σ Z s0 s ex fl Q E hA hz0 hc0 g S F hxf hQ hE;refine af (fun outer hfr=>?_) (hA.top env ht);refine fY (fun J J q hT=>?_) (hxf.held (X:=[]) (σ0:=σ0) hz0);revert q;refine af fun a t=>?_;obtain rfl:=t;refine wpAny_handleBy_builtin_as hexc hnt hsub (lx S F hk e hb hne hx ⟨rfl,hT,?_⟩);rw[if_pos rfl];refine pu hfr g hz0 hc0 S F hxf fun s1 g1 S1 F1 x1=>?_;refine fY (fun hv hc J J=>?_) (x1.held (X:=[]) (σ0:=σ0) hz0);have Sm:=S1.mark hc (by intro q;exists q);refine eN Sm F1 hv hp (aG.plain hok) (hsc.wr n hok) hsc.ow fun s2 g2 S2 F2=>?_;refine h (A.mark (some (.ref a))) σ Z s2 _ _ hA.mark S2 F2 (fun f s3 σ3 fl ρ3 H3 g3 S3 F3 hf hk'=>?_) (fun J J J J J J J J J J q=>q.elim)
 revert hk';refine ab fun ρ4 hρ hk'=>?_
 have g03:=(g1.seq g2).seq g3;have S3':St K w.params A σ3 Z H3 s3:=S3.unmark (S1.hx.tr rfl ((g2.seq g3).keepFz fun a h=>F1.ownZ a h));refine uk S3' F3 hnl hρ fun s4 g4 S4 F4=>?_;refine hQ f s4 σ3 fl ρ4 H3 (g03.seq g4) S4 F4 ?_ hk';cases fl with
 | ret u=>revert hf;refine ab fun v e hv=>?_;exact⟨v,e,VR.go g4 (fun a h=>F3.ownZ a h) u hv⟩
 | next=>exact hf
 | brk=>exact hf
 | cont=>exact hf
variable{b1 b2:Bool}{p1 p2:Pos}
theorem xV(ht:hd.top=some env){x:X}{T1 T2:String}{t1 t2:Str}(hexc1:isSubtype (.type T1) (.type "BaseException")=pure true)(hnt1:isSubtype (.type ((Manifest.find? T1).elim "type" fun x=>x.metatype)) (.type "tuple")=pure false)(hexc2:isSubtype (.type T2) (.type "BaseException")=pure true)(hnt2:isSubtype (.type ((Manifest.find? T2).elim "type" fun x=>x.metatype)) (.type "tuple")=pure false)(hsub1:isSubtype (.type x.cls) (.type T1)=pure b1)(hsub2:isSubtype (.type x.cls) (.type T2)=pure b2)(hb12:(b1 || b2)=true)(hk1:env.kindOf t1=some .globalImplicit)(e1:nsIn K mainGlobals t1=some none)(hb1:bootBuiltins t1=some (.type T1))(hne1:t1≠"__name__")(hx1:(t1==("__debug__":Str))=false)(hk2:env.kindOf t2=some .globalImplicit)(e2:nsIn K mainGlobals t2=some none)(hb2:bootBuiltins t2=some (.type T2))(hne2:t2≠"__name__")(hx2:(t2==("__debug__":Str))=false)(h:Ex prog w K d ⟨false,hd.top⟩ env ρ (execs (b₀::suite) env) H k kx):
  Hn prog w K d hd env x ρ (.ExceptHandler (some (.Tuple [.Name t1 p1,.Name t2 p2] kk tpos)) none (b₀::suite) pos::rest) H k kx:=by
 intro A σ0 σ Z s0 s ex fl Q E hA hz0 hc0 g S F hxf hQ hE;refine af (fun outer hfr=>?_) (hA.top env ht);refine fY (fun J J q hT=>?_) (hxf.held (X:=[]) (σ0:=σ0) hz0);revert q;refine af fun a t=>?_;obtain rfl:=t;refine wpAny_handleBy_tup2 hexc1 hnt1 hexc2 hnt2 hsub1 hsub2 ?_;refine Tuple_ (spliced_more (lx S F hk1 e1 hb1 hne1 hx1 (spliced_more (lx S F hk2 e2 hb2 hne2 hx2 (spliced_none ?_)))))
 revert hT;refine ab fun ob hob hobc=>?_
 refine wpAny_newObj_type ⟨_,rfl,IsTup.new _ _,⟨ob,Heap.get?_push_of_some _ hob,hobc⟩,?_⟩;rw[if_pos hb12];have gp:∀ Z,Go Z σ [] s σ {s with heap:=s.heap.push {cls:=.type "tuple",dict:=none,data:=.seq [Value.type T1,.type T2].toArray}}:=fun Z=>Go.push Z σ s _ s.toks;have Sp:=S.push {cls:=.type "tuple",dict:=none,data:=.seq [Value.type T1,.type T2].toArray} s.toks;have Fp:=F.go S (gp Z)
 have xp:=hxf.keep (s1:={s with heap:=s.heap.push {cls:=.type "tuple",dict:=none,data:=.seq [Value.type T1,.type T2].toArray}}) (G':=fun Y=>FR w.params σ (Y++Z) env ρ (s.heap.push {cls:=.type "tuple",dict:=none,data:=.seq [Value.type T1,.type T2].toArray}))
  (fun b o e=>Heap.get?_push_of_some _ e) (fun Y SY=>SY.push _ s.toks) (fun Y SY FY=>FY.go SY (gp (Y++Z)))
 have g0:=g.seq (gp Z).own;refine pu hfr g0 hz0 hc0 Sp Fp xp fun s1 g1 S1 F1 x1=>?_;refine fY (fun hv hc J J=>?_) (x1.held (X:=[]) (σ0:=σ0) hz0);have Sm:=S1.mark hc (by intro q;exists q);refine h (A.mark (some (.ref a))) σ Z s1 _ _ hA.mark Sm F1 (fun f s3 σ3 fl ρ3 H3 g3 S3 F3 hf hk'=>?_) (fun e s3 σ3 x3 ρ3 H3 g3 S3 F3 hx3 hk'=>?_)
 ·exact hQ f s3 σ3 fl ρ3 H3 (g1.seq g3) (S3.unmark (S1.hx.tr rfl (g3.keepFz fun a h=>F1.ownZ a h))) F3 hf hk'
 ·unfold notedBy;have hc1:∀ x c,(x,c)∈env.cells→∃ o,s1.heap.get? c=some o:=fun x c h=>let ⟨_,o,e,_⟩:=F1.cex x c h;⟨o,e⟩;have hfr':(A.mark (some (.ref a))).frames=some (env::outer):=hfr;refine rj hfr' g3 (fun a h=>S1.zd a h) hc1 S3 F3 hx3 fun s4 fl4 g4 S4 F4 x4=>?_;have S4':St K w.params A σ3 Z H3 s4:=S4.unmark (S1.hx.tr rfl (g4.keepFz fun a h=>F1.ownZ a h));have x4':=x4.unmark (s1:=s4) g4 (fun a h=>F1.ownZ a h) S1;unfold cameBackBy;obtain⟨a4,Y4,o4,fs4,t4,vs4,rfl,_,_,_,h41,_,h43,_,_,_,_,⟨T4,_,_,_,h44,_⟩,_⟩:=id x4';refine wpAny_bind (wpAny_field h41 h43 h44 ?_);rw[if_neg (show ¬ ((Value.ref T4==Value.none)=true) from by walk_at "s")]
  have fin:wpAny (model prog w) A (setFlight (.ref a4) env.frame) (fun J s''=>E (.ref a4) s'') E s4:=
   pu hfr g4 (fun a h=>S1.zd a h) hc1 S4' F4 x4' fun s5 g5 S5 F5 x5=>hE _ s5 σ3 x3 ρ3 H3 (g1.seq g5) S5 F5 (x5.old g1).xr hk'
  first | exact fin | exact wpAny_bind (wpAny_pure fin)
inductive w9 (h:Heap):Value→Value→Prop
 | refl (a:Addr):w9 h (.ref a) (.ref a)
 | step {a:Addr} {o:Obj} {fs:Array Value} {c v:Value}:h.get? a=some o→o.data=.fields fs→fs[2]? =some c→w9 h c v→w9 h (.ref a) v
variable{u:Value}
theorem w9.snoc(x:w9 h u v):∀ {b c:Addr} {o:Obj} {fs:Array Value},v=.ref b→h.get? b=some o→o.data=.fields fs→fs[2]? =some (.ref c)→w9 h u (.ref c):=by
 induction x with
 | refl a=>intro b c o fs e h1 h2 h3;exists e;exact .step h1 h2 h3 (.refl _)
 | step h1 h2 h3 _ ih=>intro b c o fs e k1 k2 k3;exact .step h1 h2 h3 (ih e k1 k2 k3)
variable{fs:Array Value}
theorem w9.next(x:w9 h u v){b c:Addr}{o:Obj}(e:v=.ref b)(h1:h.get? b=some o)(h2:o.data=.fields fs)(h3:fs[2]? =some (.ref c)):
  ∃ a oa fa s',u=.ref a∧h.get? a=some oa∧oa.data=.fields fa∧fa[2]? =some s'∧w9 h s' (.ref c):=by
 cases x with
 | refl a=>exists e;exact⟨_,_,_,_,rfl,h1,h2,h3,.refl _⟩
 | step k1 k2 k3 k4=>exact⟨_,_,_,_,rfl,k1,k2,k3,k4.snoc e h1 h2 h3⟩
theorem mX:entryFor table "proto.unchain"=some Builtin.«proto.unchain»:=entryFor_of_tree ⋯
variable{e:Addr}{o:Value}
theorem rQ{R:Result→Shared→Prop}(he:e∈Z)(hR:R (.ok (.ret .none)) s)(hc:Cx s.heap σ Z o):
  o≠ .none→∀ slow t,w9 s.heap slow o→codeAny (model prog w) A (.builtin "proto.unchain" ⟨[.ref e,o,slow,.bool t],[]⟩) R s:=by
 induction hc with
 | none=>intro q;exact absurd rfl q
 | @ref b ob fs c f hb hd h2 hcc ih=>
  intro J slow t hr;refine codeAny_builtin mX ?_;unfold Builtin.«proto.unchain»;refine wpAny_bind (wpAny_field hb hd h2 ?_);cases hcc with
  | none=>
   rw[if_pos (show(Value.none==Value.none)=true from rfl)];exact wpAny_pure hR
  | @ref b2 o2 fs2 c2 f2 hb2 hd2 h22 hcc2=>
   have q1:(Value.ref b2==Value.none)=false:=by walk_at "s"
   have q2:(Value.ref b2==Value.ref e)=false:=by walk_at "s";intro q;exact f2.nz (q▸he)
   refine DD (fun a oa fa s' q t=>?_) (hr.next rfl hb hd h2);obtain rfl:=q;revert t;refine fY fun k1 k2 k3 k4=>?_;simp only[q1,q2,Bool.false_eq_true,if_false]
   by_cases hq:(Value.ref b2==Value.ref a)=true
   ·simp only[hq,if_true]
    first | exact wpAny_pure hR | exact wpAny_bind (wpAny_rule (wpAny_pure hR))
   ·simp only[hq,Bool.false_eq_true,if_false];cases t with
    | true=>
     simp only[if_true,Bool.not_true];refine wpAny_bind (wpAny_field k1 k2 k3 ?_);exact wpAny_pure ⟨Code.quiet_builtin _ ∅,ih (by intro q;exists q) s' false k4⟩
    | false=>
     simp only[Bool.false_eq_true,if_false,Bool.not_false];refine wpAny_bind (wpAny_pure ?_);exact wpAny_pure ⟨Code.quiet_builtin _ ∅,ih (by intro q;exists q) (.ref a) true (hr.snoc rfl hb hd h2)⟩
variable{cls:String}
theorem pS(S:St K P A σ Z H s){oe:Obj}(hv:ak P s.heap σ Z us vs)(hk:∀ b o,s.heap.get? b=some o→h'.get? b=some o)(hn:s.heap.get? e=none)(he:h'.get? e=some oe)(hcl:oe.cls=.type cls)(hdat:oe.data=.fields fs)(f0:fs[0]? =some (.ref t))(f1:fs[1]? =some .none)(f2:fs[2]? =some c)(htn:s.heap.get? t=none)(hte:t≠e)(ht:h'.get? t=some {cls:=.type "tuple",data:=.seq vs.toArray})(hc:Cx s.heap σ Z c):
  Go Z σ [] s σ {s with heap:=h'}∧St K P A σ Z H {s with heap:=h'}∧XR K P A s.heap {s with heap:=h'} σ Z H ⟨cls,us⟩ (.ref e):=by
 have g:∀ Z,Go Z σ [] s σ {s with heap:=h'}:=fun Z=>.of ⟨fun b o q J J J=>hk b o q,fun b o q=>⟨o,hk b o q,fun h=>h⟩,⟨[],by walk_at "s",fun J h=>nomatch h⟩,rfl,rfl⟩;have S':=S.go (g Z) (fun J h=>nomatch h) fun a o J q=>hk a o q
 have fr8:∀ b,s.heap.get? b=none→378≤b:=fun b q=>by
  rcases Nat.lt_or_ge b 378 with h | h
  ·refine af (fun o e=>?_) (S.bs.low b h);rw[q] at e;exists e
  ·exact h
 have frσ:∀ b,s.heap.get? b=none→b∉σ:=fun b q h=>by refine af (fun o e=>?_) (S.sd h);rw[q] at e;exists e
 have frZ:∀ b,s.heap.get? b=none→b∉Z:=fun b q h=>by refine af (fun o e=>?_) (S.zd b h);rw[q] at e;exists e
 have hy:∀ a∈[e],s.heap.get? a=none:=fun a h=>by rw[List.mem_singleton.mp h];exact hn
 have SY:St K P A σ ([e]++Z) H {s with heap:=h'}:=S.frame (g Z) (fun a o J q=>hk a o q) fun a h=>by
  rw[List.mem_singleton.mp h];exact⟨hn,fr8 e hn,_,he⟩
 have ft:Fz σ ([e]++Z) t:=⟨fr8 t htn,frσ t htn,fun q=>(List.mem_append.mp q).elim (fun q=>hte (List.mem_singleton.mp q)) (frZ t htn)⟩;refine⟨g Z,S',e,[e],_,_,t,vs.toArray,rfl,List.mem_cons_self,hy,SY,he,hcl,hdat,f0,ft,⟨_,ht,rfl,_,rfl⟩,?_,.inl f1,⟨c,f2,?_⟩,trivial⟩
 ·have:=ak.go (s:=s) (s':={s with heap:=h'}) (g ([e]++Z)) (fun J h=>nomatch h) us (ak.grow hy us hv)
  simpa using this
 ·exact hc.tr fun a o f q=>⟨hk a o q,f.grow hy q⟩
theorem sQ(S:St K P A σ Z H s)(hv:ak P s.heap σ Z us vs)(hk:∀ b o,s.heap.get? b=some o→h'.get? b=some o)(hn:s.heap.get? e=none)(he:h'.get? e=some {cls:=.type cls,data:=.fields #[.ref t,.none,c,.none,.bool false,.none]})(htn:s.heap.get? t=none)(ht:h'.get? t=some {cls:=.type "tuple",data:=.seq vs.toArray})(hc:Cx s.heap σ Z c):
  Go Z σ [] s σ {s with heap:=h'}∧St K P A σ Z H {s with heap:=h'}∧XR K P A s.heap {s with heap:=h'} σ Z H ⟨cls,us⟩ (.ref e):=
 pS S hv hk hn he rfl rfl rfl rfl rfl htn (fun q=>by rw[q,he] at ht;exists ht) ht hc
variable{kx:X→ai→Hp→Prop}
variable{rest:List PySem.Expr}
theorem i9{newId initId:String}(Fc:ExcCallFacts cls newId initId)(G:ExcRaiseFacts cls){np:Pos}{e0:PySem.Expr}(hk:env.kindOf x=some .globalImplicit)(en:nsIn K mainGlobals x=some none)(hb:bootBuiltins x=some (.type cls))(hne:x≠"__name__")(hx:(x==("__debug__":Str))=false)(he:starEach (e0::rest) env=(false,eval e0 env)::starEach rest env)(hplain:(backTo cpos (starEach (e0::rest) env)).any (·.1)=false)(h:Es prog w K d hd env ρ (spliced (backTo cpos (starEach (e0::rest) env))) H (fun us H'=>us.length≤1000∧kx ⟨cls,us⟩ ρ H') (nc ρ kx)):
  Ex prog w K d hd env ρ (exec (.Raise (some (.Call (.Name x np) (e0::rest) [] cpos)) none pos) env) H k kx:=by
 intro A σ Z s Q E hA S F hQ hE
 have body:∀ (Q0:Value→Shared→Prop),(∀ v s1 σ1 us H1 vs h' e,Go Z σ [] s σ1 s1→St K w.params A σ1 Z H1 s1→ak w.params s1.heap σ1 Z us vs→us.length≤1000→kx ⟨cls,us⟩ ρ H1→v=.ref e→Heap.MadeExc s1.heap h' e cls vs→Q0 v {s1 with heap:=h'})→
   wpAny (model prog w) A (eval (.Call (.Name x np) (e0::rest) [] cpos) env) Q0 E s:=fun Q0 hQ0=>by
  refine wpAny_Call_ofName (lx S F hk en hb hne hx (callWith_excType hplain ?_));rw[he];refine Calls.evalArgs_plain ?_;rw[he] at h;refine h A σ Z s _ _ hA S F (fun vs s1 σ1 us H1 g1 S1 hus hk1=>?_) (hE.to S F);obtain⟨hp,g,dd,tk,os⟩:=s1;exact wpAny_call_exc Fc (fun h' e hm=>hQ0 _ ⟨hp,g,dd,tk,os⟩ σ1 us H1 vs h' e g1 S1 hus hk1.1 hk1.2 rfl hm) (by have:=hus.length;show vs.length≤sizeLine;have h2:=hk1.1;rw[this] at h2;exact Nat.le_trans h2 (by decide))
 rw[arm_exec_Raise,arm_evalOpt_some,show evalOpt none env=none from rfl,Option.map_some,Option.map_none];refine wpAny_bind (wpAny_standAt ?_);unfold raiseStmt;refine wpAny_bind ?_;refine wpAny_bind (body _ fun v s1 σ1 us H1 vs h' e g1 S1 hus hl hk1 hv hm=>?_);subst hv;refine wpAny_bind (wpAny_standAt (wpAny_pure ?_));obtain⟨t,ht,htn,htt⟩:=hm.there;obtain⟨hp,g,dd,tk,os⟩:=s1;have hsub:=G.isExc;have hmeta:=G.plainMeta
 have fin:∀ h2 c,(∀ b o,hp.get? b=some o→h2.get? b=some o)→h2.get? e=some {cls:=.type cls,data:=.fields #[.ref t,.none,c,.none,.bool false,.none]}→h2.get? t=some {cls:=.type "tuple",data:=.seq vs.toArray}→Cx hp σ1 Z c→E (.ref e) ⟨h2,g,dd,tk,os⟩:=fun h2 c q1 q2 q3 q4=>by
  refine gT (fun gx Sx Xx=>?_) (sQ S1 hus q1 hm.new q2 htn q3 q4);exact hE (.ref e) _ σ1 ⟨cls,us⟩ ρ H1 (g1.trans gx).own Sx (F.go S (g1.trans gx)) ((Xx.old g1).fr F S (g1.trans gx)) hk1
 repeat (first | refine wpAny_loadPart ht ?_ | wp_step)
 unfold raiseNew;refine wpAny_bind (wpAny_handled ?_);cases hh:A.handled with
 | none=>
  first
   | exact wpAny_throw (fin h' .none hm.keeps ht htt .none)
   | exact wpAny_bind (wpAny_pure (wpAny_throw (fin h' .none hm.keeps ht htt .none)))
 | some v=>
  refine am (fun hc hvn=>?_) (S1.hx v hh);have hcv:=hc;obtain⟨b,rfl⟩:∃ b,v=.ref b:=by cases hc <;> first | exact absurd rfl hvn | exact⟨_,rfl⟩
  have hbe:b≠e:=fun q=>by
   subst q;cases hc with
   | ref f hb _ _ _=>rw[hm.new] at hb;exists hb
  have q1:(Value.ref b != Value.ref e)=true:=by simp[hbe]
  simp only[q1,if_true];have hy:∀ a∈[e],hp.get? a=none:=fun a h=>by rw[List.mem_singleton.mp h];exact hm.new
  have hc':Cx h' σ1 ([e]++Z) (.ref b):=hcv.tr fun a o f q=>⟨hm.keeps a o q,f.grow hy q⟩;refine wpAny_bind (wpAny_holding (wpAny_runValue (rQ (σ:=σ1) (Z:=[e]++Z) (by walk_at "s") ?_ hc' (by intro q;exists q) _ _ (.refl b))));have hd3:=Obj.data_mapFields (o:={cls:=.type cls,data:=.fields #[.ref t,.none,.none,.none,.bool false,.none]}) rfl (·.setIfInBounds 2 (Value.ref b));have he3:=Heap.get?_update_self (Obj.mapFields (·.setIfInBounds 2 (Value.ref b))) ht (Obj.isFreed_of_fields hd3);refine wpAny_bind ?_;show wpAny _ A (setField (.ref e) 2 (.ref b)) _ _ _;refine wpAny_setField ht rfl (by walk_at "s") (wpAny_throw (fin _ (.ref b) (fun b' o q=>?_) he3 ?_ hcv))
  ·exact(Heap.get?_update_other _ _ (fun z=>by subst z;rw[hm.new] at q;exists q)).trans (hm.keeps b' o q)
  ·exact(Heap.get?_update_other _ _ (fun z=>by subst z;rw[ht] at htt;exists htt)).trans htt
section
open Builtin Builtin.ObjectAttr
structure Nx(h h':Heap)(e:Addr)(o:Value)(name msg:Str):Prop where
 keeps:∀ b o,h.get? b=some o→h'.get? b=some o
 new:h.get? e=none
 there:∃ t tk u,h'.get? e=some {cls:=.type "AttributeError",data:=.fields #[.ref t,.none,.none,.none,.bool false,.none,.str name u,o]}∧h.get? t=none∧t≠e∧h'.get? t=some {cls:=.type "tuple",data:=.seq [Value.str msg tk].toArray}
variable{msg:Str}
theorem rD{Q:α→Shared→Prop}(hh:A.handled=none)(hm:msg.length≤sizeLine)(h:∀ h' tk e,Nx s.heap h' e o name msg→E (.ref e) {s with heap:=h',toks:=tk}):wpAny (model prog w) A (raiseAttrError o name msg:Sem α) Q E s:=by
 unfold raiseAttrError;refine wpAny_bind (wpAny_mkStr (wpAny_bind ?_) hm);unfold newExc newTuple;refine wpAny_bind (wpAny_newObj_type ?_ (by size_fits));refine wpAny_bind (m:=firstArgMember _ _) (wpAny_of_eq (a:=Value.none) (by simp only[firstArgMember,attrError_no_first];rfl) ?_);rw[ownMembersOf_AttributeError];refine wpAny_newObj_type ?_ (by size_fits);obtain⟨hp,g,d,tk,os⟩:=s;have f1:=sub_AttributeError
 repeat (any_goals (first | assumption | wp_step))
 unfold raiseNew;refine wpAny_bind (wpAny_handled ?_);rw[hh]
 first
  | refine wpAny_throw ?_
  | refine wpAny_bind (wpAny_pure (wpAny_throw ?_))
 dsimp only;refine h _ _ _ ⟨fun b ob hb=>?_,Heap.get?_none_of_le (by simp),hp.objs.size,tk,tk+1,Heap.get?_update_self _ (Heap.get?_push_size _ rfl) rfl,Heap.get?_none_of_le (Nat.le_refl _),?_,?_⟩
 ·have hlt:b < hp.objs.size:=Heap.lt_size hb;refine(Heap.get?_update_other _ _ ?_).trans (Heap.get?_push_of_some _ (Heap.get?_push_of_some _ hb));simp only[Heap.size_push];exact Nat.ne_of_gt (Nat.lt_succ_of_lt hlt)
 ·simp only[Heap.size_push];exact Nat.ne_of_lt (Nat.lt_succ_self _)
 ·refine(Heap.get?_update_other _ _ ?_).trans (Heap.get?_push_of_some _ (Heap.get?_push_size _ rfl));simp only[Heap.size_push];exact Nat.ne_of_gt (Nat.lt_succ_self _)
variable{xs:Array Value}{k tk:Nat}{hp:Heap}{g:Array GenState}{d:Drawn}{os:OsState}
theorem kK{u:Tok}{Q:Fin→Shared→Prop}(hx:hp.get? a=some {cls:=.type "list",dict:=none,data:=.seq xs k,slots:= #[]})(hmiss:typeLookup (.type "list") name=pure none)(hname:(["__module__","__name__","__qualname__","__doc__","__annotations__"]:List Str).contains name=false)(hsz:name.length+100≤sizeLine)(hh:A.handled=none)(h:∀ h' tk e,(∃ msg,Nx hp h' e (.ref a) name msg)→E (.ref e) ⟨h',g,d,tk,os⟩):wpAny (model prog w) A (Builtin.«object.__getattribute__» ⟨[.ref a,.str name u],[]⟩) Q E ⟨hp,g,d,tk,os⟩:=by
 have hT:(⟨hp,g,d,tk,os⟩:Shared).TypeIs (.ref a) "list":=⟨_,hx,rfl⟩;unfold Builtin.«object.__getattribute__»
 repeat (any_goals (first | assumption | wp_step))
 simp only[hname,Bool.false_eq_true,if_false]
 repeat (any_goals (first | assumption | wp_step))
 exact rD hh (attrMsg_fits ∅ hsz) fun h' tk e hx=>h h' tk e ⟨_,hx⟩
theorem tw(hx:hp.get? a=some {cls:=.type "list",dict:=none,data:=.seq xs k,slots:= #[]})(hmiss:typeLookup (.type "list") name=pure none)(hname:(["__module__","__name__","__qualname__","__doc__","__annotations__"]:List Str).contains name=false)(hsz:name.length+100≤sizeLine)(hh:A.handled=none)(h:∀ h' tk e,(∃ msg,Nx hp h' e (.ref a) name msg)→E (.ref e) ⟨h',g,d,tk,os⟩):wpAny (model prog w) A (getAttr (.ref a) name false) Q E ⟨hp,g,d,tk,os⟩:=by
 have hT:∀ tk',(⟨hp,g,d,tk',os⟩:Shared).TypeIs (.ref a) "list":=fun J=>⟨_,hx,rfl⟩;have f1:=sub_AttributeError;have f3:=F.slot_list_getattribute.lookup;have f4:=F.slot_list_getattribute.bind (.ref a);have f5:=am_list_getattr_none;unfold getAttr getAttrBy
 repeat (any_goals (first | assumption | exact hT _ | ((with_reducible show wpAny _ _ (call (Value.builtin "list.__getattribute__") _ _) _ _ _);refine wpAny_call_entry F.slot_list_getattribute (hT _) am_entry_list_getattribute (kK hx hmiss hname hsz hh fun h' tk e hx'=>?_) (F.args_list_getattribute_2 _ _)) | wp_step))
 obtain⟨msg,hx'⟩:=hx';obtain⟨t',u',nm,he,_⟩:=hx'.there;refine wpAny_loadPart he (wpAny_pure (wpAny_of_eq f1 ?_));rw[if_pos rfl]
 repeat (any_goals (first | assumption | wp_step))
 exact h _ _ _ ⟨_,hx'⟩
theorem pR{Q:Value × List Value→Shared→Prop}(hx:hp.get? a=some {cls:=.type "list",dict:=none,data:=.seq xs k,slots:= #[]})(hmiss:typeLookup (.type "list") name=pure none)(hname:(["__module__","__name__","__qualname__","__doc__","__annotations__"]:List Str).contains name=false)(hsz:name.length+100≤sizeLine)(hh:A.handled=none)(h:∀ h' tk e,(∃ msg,Nx hp h' e (.ref a) name msg)→E (.ref e) ⟨h',g,d,tk,os⟩):wpAny (model prog w) A (getMethod (.ref a) name pl) Q E ⟨hp,g,d,tk,os⟩:=by
 have hT:∀ tk',(⟨hp,g,d,tk',os⟩:Shared).TypeIs (.ref a) "list":=fun J=>⟨_,hx,rfl⟩;have f3:=F.slot_list_getattribute.lookup;have f4:=F.slot_list_getattribute.bind (.ref a);have f5:=am_list_getattr_none;have hc:Manifest.canonical "list.__getattribute__"="object.__getattribute__":=by kernel_rfl
 unfold getMethod
 repeat (any_goals (first | assumption | (with_reducible refine wpAny_bind (tw hx hmiss hname hsz hh h)) | wp_step))
end
structure Mx(h h':Heap)(e:Addr)(cls:String)(msg:Str):Prop where
 keeps:∀ b o,h.get? b=some o→h'.get? b=some o
 new:h.get? e=none
 there:∃ t tk,h'.get? e=some {cls:=.type cls,data:=.fields #[.ref t,.none,.none,.none,.bool false,.none]}∧h.get? t=none∧h'.get? t=some {cls:=.type "tuple",data:=.seq [Value.str msg tk].toArray}
variable{msg:Str}
theorem Mx.after(x:Mx h h' e cls msg)(k:∀ b o,h0.get? b=some o→h.get? b=some o):Mx h0 h' e cls msg:=by
 have n:∀ b,h.get? b=none→h0.get? b=none:=fun b e=>by
  cases q:h0.get? b with
  | none=>rfl
  | some o=>rw[k b o q] at e;exists e
 obtain⟨t,tk,h1,h2,h3⟩:=x.there;exact⟨fun b o e=>x.keeps b o (k b o e),n _ x.new,t,tk,h1,n _ h2,h3⟩
section
variable{α:Type}{M:Model}{A:Around}{E:Value→Shared→Prop}{s:Shared}
theorem ii{msg:String}{Q:α→Shared→Prop}(hp:PlainExc cls)(hh:A.handled=none)(hm:(msg:Str).length≤sizeLine)(h:∀ h' tk e,Mx s.heap h' e cls (msg:Str)→E (.ref e) {s with heap:=h',toks:=tk}):wpAny M A (raiseErrorMade cls msg:Sem α) Q E s:=by
 unfold raiseErrorMade;refine wpAny_bind (wpAny_mkStr (wpAny_bind ?_) hm);refine wpAny_newExc_plain hp (fun h' e hx=>?_) (by size_fits);refine wpAny_raiseNew_none hh ?_;obtain⟨t,h1,h2,h3⟩:=hx.there;exact h _ _ _ ⟨hx.keeps,hx.new,t,_,h1,h2,h3⟩
end
variable{k:V→Hp→Prop}{kx:X→Hp→Prop}
theorem AV(S:St K w.params A σ Z H s)(x:Mx s.heap h' e cls msg)(tk:Nat):
  Go Z σ [] s σ {s with heap:=h',toks:=tk}∧St K w.params A σ Z H {s with heap:=h',toks:=tk}∧XR K w.params A s.heap {s with heap:=h',toks:=tk} σ Z H ⟨cls,[.str msg]⟩ (.ref e):=by
 obtain⟨t,tk0,h1,h2,h3⟩:=x.there;have S1:=S.tok tk;refine gT (fun a b c=>?_) (sQ (s:={s with toks:=tk}) S1 (us:=[.str msg]) (vs:=[.str msg tk0]) (ak.one VR.str) x.keeps x.new h1 h2 h3 .none);exact⟨(Go.tok Z σ [] s tk).trans a,b,c.old (Go.tok Z σ [] s tk)⟩
theorem iu(hh:A.handled=none)(h:∀ h' tk e,(∃ msg,Mx s.heap h' e "TypeError" msg)→E (.ref e) {s with heap:=h',toks:=tk}):
  wpAny (model prog w) A (pyIter (.none)) Q E s:=by
 obtain⟨hp,g,dd,tk',os⟩:=s;have hT:∀ s':Shared,s'.TypeIs (.none) "NoneType":=fun J=>rfl;have f1:typeLookup (.type "NoneType") "__contains__"=pure none:=by rw[typeLookup_type,builtinLookup_eq_fast];kernel_rfl
 have f2:typeLookup (.type "NoneType") "__iter__"=pure none:=by rw[typeLookup_type,builtinLookup_eq_fast];kernel_rfl
 have f3:typeLookup (.type "NoneType") "__getitem__"=pure none:=by rw[typeLookup_type,builtinLookup_eq_fast];kernel_rfl
 unfold pyIter
 repeat (any_goals (first | assumption | (with_reducible refine wpAny_bind (wpAny_typeNameOf' (hT _) (by decide) ?_)) | (with_reducible refine ii plainExc_TypeError hh ∅ fun h' tk e hx=>?_) | wp_step))
 exact h _ _ _ ⟨_,hx⟩
variable{Q:Bool→Shared→Prop}{tx:Tok}
theorem iW(hh:A.handled=none)(h:∀ h' tk e,(∃ msg,Mx s.heap h' e "TypeError" msg)→E (.ref e) {s with heap:=h',toks:=tk}):
  wpAny (model prog w) A (contains (.none) (.str x tx)) Q E s:=by
 obtain⟨hp,g,dd,tk',os⟩:=s;have fT:isSubtype (.type "TypeError") (.type "TypeError")=pure true:=by rw[isSubtype_type];kernel_rfl
 have hT:∀ s':Shared,s'.TypeIs (.none) "NoneType":=fun J=>rfl;have f1:typeLookup (.type "NoneType") "__contains__"=pure none:=by rw[typeLookup_type,builtinLookup_eq_fast];kernel_rfl
 have f2:typeLookup (.type "NoneType") "__iter__"=pure none:=by rw[typeLookup_type,builtinLookup_eq_fast];kernel_rfl
 have f3:typeLookup (.type "NoneType") "__getitem__"=pure none:=by rw[typeLookup_type,builtinLookup_eq_fast];kernel_rfl
 unfold contains;rw[show stdlibNamesSay? (.none) (.str x tx)=none from rfl]
 repeat (any_goals (first | assumption | (with_reducible refine wpAny_bind (wpAny_tryCatch (iu hh fun h1 tk1 e1 hx1=>?_))) | (with_reducible refine wpAny_tryCatch (iu hh fun h1 tk1 e1 hx1=>?_)) | wp_step))
 revert hx1;refine af fun msg1 hx1=>?_
 obtain⟨t1,tk1',he1,ht1,ht1'⟩:=hx1.there;refine wpAny_loadPart he1 (wpAny_pure (wpAny_of_eq fT ?_));rw[if_pos rfl];refine wpAny_bind (wpAny_typeNameOf' (hT _) (by decide) ?_);refine ii plainExc_TypeError hh ∅ fun h' tk e hx=>?_;exact h _ _ _ ⟨_,hx.after hx1.keeps⟩
variable{Q:Value→Shared→Prop}{t:Tok}
theorem jh(hh:A.handled=none)(h:∀ h' tk e,(∃ msg,Mx s.heap h' e "TypeError" msg)→E (.ref e) {s with heap:=h',toks:=tk}):
  wpAny (model prog w) A (pyIter (.int i t)) Q E s:=by
 obtain⟨hp,g,dd,tk',os⟩:=s;have hT:∀ s':Shared,s'.TypeIs (.int i t) "int":=fun J=>rfl;have f1:typeLookup (.type "int") "__contains__"=pure none:=by rw[typeLookup_type,builtinLookup_eq_fast];kernel_rfl
 have f2:typeLookup (.type "int") "__iter__"=pure none:=by rw[typeLookup_type,builtinLookup_eq_fast];kernel_rfl
 have f3:typeLookup (.type "int") "__getitem__"=pure none:=by rw[typeLookup_type,builtinLookup_eq_fast];kernel_rfl
 unfold pyIter
 repeat (any_goals (first | assumption | (with_reducible refine wpAny_bind (wpAny_typeNameOf' (hT _) (by decide) ?_)) | (with_reducible refine ii plainExc_TypeError hh ∅ fun h' tk e hx=>?_) | wp_step))
 exact h _ _ _ ⟨_,hx⟩
theorem jL{Q:Bool→Shared→Prop}(hh:A.handled=none)(h:∀ h' tk e,(∃ msg,Mx s.heap h' e "TypeError" msg)→E (.ref e) {s with heap:=h',toks:=tk}):
  wpAny (model prog w) A (contains (.int i t) (.str x tx)) Q E s:=by
 obtain⟨hp,g,dd,tk',os⟩:=s;have fT:isSubtype (.type "TypeError") (.type "TypeError")=pure true:=by rw[isSubtype_type];kernel_rfl
 have hT:∀ s':Shared,s'.TypeIs (.int i t) "int":=fun J=>rfl;have f1:typeLookup (.type "int") "__contains__"=pure none:=by rw[typeLookup_type,builtinLookup_eq_fast];kernel_rfl
 have f2:typeLookup (.type "int") "__iter__"=pure none:=by rw[typeLookup_type,builtinLookup_eq_fast];kernel_rfl
 have f3:typeLookup (.type "int") "__getitem__"=pure none:=by rw[typeLookup_type,builtinLookup_eq_fast];kernel_rfl
 unfold contains;rw[show stdlibNamesSay? (.int i t) (.str x tx)=none from rfl]
 repeat (any_goals (first | assumption | (with_reducible refine wpAny_bind (wpAny_tryCatch (jh hh fun h1 tk1 e1 hx1=>?_))) | (with_reducible refine wpAny_tryCatch (jh hh fun h1 tk1 e1 hx1=>?_)) | wp_step))
 revert hx1;refine af fun msg1 hx1=>?_
 obtain⟨t1,tk1',he1,ht1,ht1'⟩:=hx1.there;refine wpAny_loadPart he1 (wpAny_pure (wpAny_of_eq fT ?_));rw[if_pos rfl];refine wpAny_bind (wpAny_typeNameOf' (hT _) (by decide) ?_);refine ii plainExc_TypeError hh ∅ fun h' tk e hx=>?_;exact h _ _ _ ⟨_,hx.after hx1.keeps⟩
variable{u:V}
theorem bP(hn:hd.h=true)(hu:u=.none∨∃ i,u=.int i)(h:∀ msg,kx ⟨"TypeError",[.str msg]⟩ H):Pr prog w K d hd [.str x,u] (kL .In) H k kx:=by
 refine az fun A σ Z s a b Q E hA S ha hb hQ hE=>?_
 revert ha;refine af fun tk t=>?_;obtain rfl:=t
 have hh:=hA.none hn;show wpAny _ _ (compareOp .In _ _) _ _ _;unfold compareOp;refine wpAny_bind ?_
 have fin:∀ h' tk e,(∃ msg,Mx s.heap h' e "TypeError" msg)→E (.ref e) {s with heap:=h',toks:=tk}:=fun h' tk e ⟨msg,hx⟩=>by
  refine gT (fun g S' X'=>?_) (AV S hx tk);exact hE _ _ σ _ H g S' X' (h msg)
 rcases hu with rfl | ⟨i,rfl⟩
 ·subst hb;exact iW hh fin
 ·revert hb;refine af fun t t=>?_;obtain rfl:=t
  exact jL hh fin
theorem dh(hn:hd.h=true){o:PySem.Expr}{args:List PySem.Expr}(hev:eval (.Call (.Attribute o name apos) args [] pos) env=(do
   let ov←eval o env
   standAt apos.atName
   let (f,first)←holding [ov] (getMethod ov name pl)
   callWith pos f first (backTo pos (starEach args env)) []))(hmiss:typeLookup (.type "list") name=pure none)(hname:(["__module__","__name__","__qualname__","__doc__","__annotations__"]:List Str).contains name=false)(hsz:name.length+100≤sizeLine)(h:Ev prog w K d hd env ρ (eval o env) H (fun u H1=>(∃ l,u=.lst l)∧∀ msg,kx ⟨"AttributeError",[.str msg]⟩ H1) kx):
  Ev prog w K d hd env ρ (eval (.Call (.Attribute o name apos) args [] pos) env) H k kx:=by
 intro A σ Z s Q E hA S F hQ hE;refine MethodCall_ (pl:=pl) (h A σ Z s _ _ hA S F (fun v s1 σ1 u H1 g1 S1 hu hk=>?_) hE) hev;obtain⟨⟨l,rfl⟩,hk⟩:=hk;obtain⟨a,vs,rfl,f,⟨n,hl⟩,hvs⟩:=hu;obtain⟨hp,g,dd,tk,os⟩:=s1;refine pR hl hmiss hname hsz (hA.none hn) fun h' tk' e hx=>?_
 revert hx;refine af fun msg hx=>?_
 obtain⟨t,tk0,u,h1,h2,h3,h4⟩:=hx.there;have S2:=S1.tok tk';refine gT (fun g3 S3 X3=>?_) (pS (s:=⟨hp,g,dd,tk',os⟩) S2 (us:=[.str msg]) (vs:=[.str msg tk0]) (ak.one VR.str) hx.keeps hx.new h1 rfl rfl rfl rfl rfl h2 h3 h4 .none);have g2:=Go.tok Z σ1 [] ⟨hp,g,dd,tk,os⟩ tk';exact hE _ _ σ1 _ H1 (g1.trans (g2.trans g3)) S3 ((X3.old g2).old g1) (hk msg)
variable{kx:X→Hp→Prop}
theorem sP{A':Around}(F:FR P σ Z env ρ s.heap)(e:(x,u)∈ρ)(h:∀ v,VR P s.heap σ Z u v→Q v s):wpAny (model prog w) A (eval (.Name x pos) env) Q E s:=by
 refine wpAny_Name ?_ (F.plain x u e).1;rcases F.all x u e with hl | hc | hf
 ·obtain⟨m,hm,q⟩:=F.ns;refine ab (fun v hv hr=>?_) (q x u e hl);exact wpAny_loadName_local F.kind hl hm hv (h _ hr)
 ·refine ee (fun c v e1 e2 hr=>?_) (F.cell x u e (.inl hc));exact wpAny_loadName_cell F.kind hc e1 e2 (h _ hr)
 ·refine ee (fun c v e1 e2 hr=>?_) (F.cell x u e (.inr hf));exact wpAny_loadName_free F.kind hf e1 e2 (h _ hr) (F.plain x u e).2
noncomputable def xB(C D x:Str):Str:=if (!(Builtin.Str.occurrences x C 0 x.length 1).isEmpty)=true then Txt.replace x C D else x
variable{ks:Fl→ai→Hp→Prop}{p3 p4 p5 p6:Pos}
theorem bg{kxs:X→ai→Hp→Prop}(hsc:Sc env sc (own env)){C D:Str}{p7 p8 p9 p10 p11:Pos}{k1 k2 k3:Nat}(hok:aG sc n=true)(hm:behindInMarks .In (.Name n p2)=false)(hs:swapsWithSole [.Name n p4] (.Call (.Attribute (.Name n p5) "replace" p6) [.Constant (.str C) k2 p7,.Constant (.str D) k3 p8] [] p9) p10.line env=pure false)(hw:swappedStores [.Name n p4] (.Call (.Attribute (.Name n p5) "replace" p6) [.Constant (.str C) k2 p7,.Constant (.str D) k3 p8] [] p9) env=pure none)(hev:eval (.Call (.Attribute (.Name n p5) "replace" p6) [.Constant (.str C) k2 p7,.Constant (.str D) k3 p8] [] p9) env=(do
   let ov←eval (.Name n p5) env
   standAt p6.atName
   let (f,first)←holding [ov] (getMethod ov "replace" pl)
   callWith p9 f first (backTo p9 (starEach [.Constant (.str C) k2 p7,.Constant (.str D) k3 p8] env)) []))(hCD:(C==D)=false)(hl:x.length+(x.length+1) * D.length≤16777216)(h:ks .next [(n,.str (xB C D x))] H):
  Ex prog w K d hd env [(n,.str x)] (exec (.If (.Compare (.Constant (.str C) k1 p1) [.In] [.Name n p2] p3) [.Assign [.Name n p4] (.Call (.Attribute (.Name n p5) "replace" p6) [.Constant (.str C) k2 p7,.Constant (.str D) k3 p8] [] p9) p10] [] p11) env) H ks kxs:=by
 intro A σ Z s Q E hA S F hQ hE;refine wpAny_If (wpAny_isTrue_Compare1 (Calls.Constant_str ?_) hm);have g1:=Go.tok Z σ [] s (s.toks+1);have S1:=S.tok (s.toks+1);have F1:=F.go S g1;refine sP (A':=A) (s:={s with toks:=s.toks+1}) F1 List.mem_cons_self fun v hv=>?_
 revert hv;refine af fun tx t=>?_;obtain rfl:=t
 refine PyProof.Rows.in_str (wpAny_truthy_bool ?_);unfold xB at h;cases hc: !(Builtin.Str.occurrences x C 0 x.length 1).isEmpty with
 | false=>
  rw[hc,if_neg (by decide)] at h;rw[if_neg (by decide)];exact wpAny_execs_nil (hQ .next {s with toks:=s.toks+1} σ .next _ H g1.own S1 F1 rfl h)
 | true=>
  rw[hc,if_pos rfl] at h;rw[if_pos rfl];refine wpAny_execs_cons (wpAny_Assign_stores (MethodCall_ (pl:=pl) (sP (A':=A) (s:={s with toks:=s.toks+1}) F1 List.mem_cons_self fun v hv=>?_) ?_) hs hw)
  ·revert hv;refine af fun t2 t=>?_;obtain rfl:=t
   refine GM.replace (callWith_method1 (spliced_more (Calls.Constant_str (spliced_more (Calls.Constant_str (spliced_none ?_))))));refine SC.replace (by walk_at "s") (by walk_at "s") (by walk_at "s") hCD hl fun t' kk=>?_;have g2:=Go.tok Z σ [] s kk;have S2:=S.tok kk;have F2:=F.go S g2;show wpAny _ A (assign (.Name n p4) env _) _ E {s with toks:=kk};refine wpAny_assign_Name ?_;refine eN S2 F2 (u:=.str (Txt.replace x C D)) VR.str (ba.here rfl) (aG.plain hok) (hsc.wr n hok) hsc.ow fun s' g' S' F'=>?_;exact wpAny_execs_nil (hQ .next s' σ .next _ H (g2.ev g') S' F' rfl h)
  ·exact hev
variable{kx:X→Hp→Prop}
theorem tV{v₁ v₂:PySem.Expr}(h:Ev prog w K d hd env ρ (joinParts Str.empty (eval v₁ env::eval v₂ env::evalEach rest env)) H k kx):Ev prog w K d hd env ρ (eval (.JoinedStr (v₁::v₂::rest) pos) env) H k kx:=h
variable{out:Str}
theorem AK(hl:out.length≤sizeLine)(h:k (.str out) H):Ev prog w K d hd env ρ (joinParts out []) H k kx:=by
 intro A σ Z s Q E hA S F hQ hE;exact joinParts_nil (hQ _ _ σ _ _ (Go.tok ..) (S.tok _) VR.str h) hl
theorem ji{x:Sem Value}{rest:List (Sem Value)}(h:Ev prog w K d hd env ρ x H (fun u H1=>∃ y,u=.str y∧(out++y).length≤sizeLine∧Ev prog w K d hd env ρ (joinParts (out++y) rest) H1 k kx) kx):
  Ev prog w K d hd env ρ (joinParts out (x::rest)) H k kx:=by
 intro A σ Z s Q E hA S F hQ hE;refine joinParts_cons (h A σ Z s _ _ hA S F (fun v s1 σ1 u H1 g1 S1 hu hk=>?_) hE)
 revert hk;refine ab fun y q t=>?_;obtain rfl:=q;revert t;refine am fun hl hk=>?_
 revert hu;refine af fun t t=>?_;obtain rfl:=t
 exact⟨hl,hk A σ1 Z s1 _ _ hA S1 (F.go S g1) (fun v s' σ' x H' g'=>hQ v s' σ' x H' (g1.trans g')) (hE.go g1)⟩
noncomputable def qk:List Value→Sem Value
 | [v]=>pyReprObj v
 | _=>unsupported ""
theorem qP(h:Ev prog w K d hd env ρ (eval value env) H (fun u H1=>Pr prog w K d hd [u] qk H1 (fun y H2=>(∃ x,y=.str x∧x.length≤sizeLine)∧k y H2) kx) kx):
  Ev prog w K d hd env ρ (eval (.FormattedValue value 114 none pos) env) H k kx:=by
 intro A σ Z s Q E hA S F hQ hE;refine wpAny_FormattedValue_repr (h A σ Z s _ _ hA S F (fun v s1 σ1 u H1 g1 S1 hu hk=>?_) hE);refine hk A σ1 Z s1 [v] _ _ hA S1 (ak.one hu) (fun r s2 σ2 y H2 g2 S2 hy hk2=>?_) (hE.go g1)
 revert hk2;refine am fun q hk2=>?_;revert q;refine ab fun x q hl=>?_;obtain rfl:=q
 revert hy;refine af fun t t=>?_;obtain rfl:=t
 exact formatField_str (fun t' tk=>hQ _ _ σ2 _ _ ((g1.trans g2).trans (Go.tok Z σ2 [] s2 tk)) (S2.tok tk) VR.str hk2) hl
theorem qQ(h:Ev prog w K d hd env ρ (eval value env) H (fun u H1=>(∃ x,u=.str x∧x.length≤sizeLine)∧k u H1) kx):
  Ev prog w K d hd env ρ (eval (.FormattedValue value 115 none pos) env) H k kx:=by
 intro A σ Z s Q E hA S F hQ hE;refine wpAny_FormattedValue_s (h A σ Z s _ _ hA S F (fun v s1 σ1 u H1 g1 S1 hu hk=>?_) hE)
 revert hk;refine am fun q hk=>?_;revert q;refine ab fun x q hl=>?_;obtain rfl:=q
 revert hu;refine af fun t t=>?_;obtain rfl:=t
 refine SB.convS_str (fun t' kk=>?_) hl;exact formatField_str (fun t' tk=>hQ _ _ σ1 _ _ (g1.trans (Go.tok Z σ1 [] s1 tk)) (S1.tok tk) VR.str hk) hl
theorem oV(h:k (.str "None") H):Pr prog w K d hd [.none] qk H k kx:=by
 refine bu fun A σ Z s a Q E hA S ha hQ hE=>?_;subst ha;exact pyReprObj_none (hQ _ _ σ _ _ (Go.tok ..) (S.tok _) VR.str h)
theorem qc(hi:i.natAbs.log2 < 1920)(h:k (.str (toString i)) H):Pr prog w K d hd [.int i] qk H k kx:=by
 refine bu fun A σ Z s a Q E hA S ha hQ hE=>?_
 revert ha;refine af fun t t=>?_;obtain rfl:=t
 exact pyReprObj_int hi (hQ _ _ σ _ _ (Go.tok ..) (S.tok _) VR.str h)
theorem qd(hd1:b9 l=true)(hs:(V.lst l).dat.showable=true)(hnd:(V.lst l).dat.hasDict=false)(hdp:(V.lst l).dat.depth≤30)(hsz:(V.lst l).dat.shown.length≤sizeLine)(h:k (.str (V.lst l).dat.shown) H):
  Pr prog w K (d+1) hd [.lst l] qk H k kx:=by
 refine bu fun A σ Z s a Q E hA S ha hQ hE=>?_;refine ab (fun as r J=>?_) (V.reads (.lst l) hd1 ha);have ha':=ha;obtain⟨b,vs',rfl,_⟩:=ha';refine pyReprObj_of_reads r hs (fun q=>by rw[hnd] at q;exists q) hA.guards (by have:=hA.u40;omega) (fun J J e=>e) (fun h' u tk hk=>?_) hsz;have g:Go Z σ [] s σ {s with heap:=h',toks:=tk}:=.of ⟨fun b o e J J J=>hk b o e,fun b o e=>⟨o,hk b o e,fun h=>h⟩,⟨[],by walk_at "s",fun J h=>nomatch h⟩,rfl,rfl⟩;exact hQ _ _ σ _ _ g (S.go g (fun J h=>nomatch h) fun a o J e=>hk a o e) VR.str h
noncomputable def Bx:V→Option String
 | .none=>some "NoneType"
 | .bool _=>some "bool"
 | .int _=>some "int"
 | .str _=>some "str"
 | .lst _=>some "list"
 | .tup _=>some "tuple"
 | _=>none
theorem DL{T:String}(hT:Bx u=some T)(hv:VR P h σ Z u v)(hs:s.heap=h):s.TypeIs v T:=by
 cases u <;> exists hT
 ·obtain rfl:v=_:=hv;rfl
 ·obtain rfl:v=_:=hv;rfl
 ·revert hv;refine af fun t t=>?_;obtain rfl:=t;rfl
 ·revert hv;refine af fun t t=>?_;obtain rfl:=t;rfl
 ·obtain⟨a,vs,rfl,_,⟨o,e,hc,_⟩,_⟩:=hv;exact⟨o,hs▸e,hc⟩
 ·obtain⟨a,vs,rfl,_,⟨n,e⟩,_⟩:=hv;exact⟨_,hs▸e,rfl⟩
theorem oY{T:String}(hT:Bx u=some T)(h:k (.ty T) H):Pr prog w K d hd [u] (fun vs=>call (.type "type") vs) H k kx:=by
 refine bu fun A σ Z s a Q E hA S ha hQ hE=>?_;have ht:=DL hT ha rfl;have hq:=hQ (.type T) s σ (.ty T) H (Go.refl ..) S (by rfl) h;obtain⟨hp,g,dd,tk,os⟩:=s;refine call_type_of ht ?_ hq;cases u <;> cases hT <;> decide
theorem mq(hr:H[r]? =some (.l l))(h:k (.ty "list") H):Pr prog w K d hd [.ob r] (fun vs=>call (.type "type") vs) H k kx:=by
 refine bu fun A σ Z s a Q E hA S ha hQ hE=>?_;obtain⟨b,rfl,e⟩:=ha;obtain⟨vs,⟨n,ho⟩,_⟩:=S.ob e hr;have hq:=hQ (.type "list") s σ (.ty "list") H (Go.refl ..) S (by rfl) h;obtain⟨hp,g,dd,tk,os⟩:=s;exact call_type_of (x:=.ref b) (Tx:="list") ⟨_,ho,rfl⟩ (by decide) hq
variable{a b:String}
theorem p0(h:k (.bool (decide (a=b))) H):Pr prog w K d hd [.ty a,.ty b] (kL .Is) H k kx:=by
 refine az fun A σ Z s x y Q E hA S hx hy hQ hE=>?_;subst hx hy;show wpAny _ _ (compareOp .Is _ _) _ _ _;have h':=hQ (.bool (decide (a=b))) s σ _ H (Go.refl ..) S VR.bool h
 by_cases e:a=b
 ·subst e;rw[decide_eq_true rfl] at h';exact wpAny_is_self rfl h'
 ·rw[decide_eq_false e] at h';exact wpAny_is_other rfl (fun q=>e (by injection q)) h'
theorem kC(h:k (.bool (!decide (a=b))) H):Pr prog w K d hd [.ty a,.ty b] (kL .IsNot) H k kx:=by
 refine az fun A σ Z s x y Q E hA S hx hy hQ hE=>?_;subst hx hy;show wpAny _ _ (compareOp .IsNot _ _) _ _ _;have h':=hQ (.bool (!decide (a=b))) s σ _ H (Go.refl ..) S VR.bool h
 by_cases e:a=b
 ·subst e;rw[decide_eq_true rfl] at h';exact wpAny_isNot_plain rfl (by simpa using h')
 ·rw[decide_eq_false e] at h';exact wpAny_isNot_other rfl (fun q=>e (by injection q)) h'
theorem j4{T q:String}(ht:kitMeta T=true)(hs:Manifest.isStub T=false)(e:findCls K (.type T) (.type "type") "__name__"=some (.get (.builtin "getset_descriptor.__get__") (.builtin "type.__name__") (.type T) (.type "type")))(hq:ktynFast T=q)(hz:(Str.ofString q).length≤sizeLine)(h:k (.str (Str.ofString q)) H):Pr prog w K d hd [.ty T] (gA "__name__") H k kx:=by
 refine bu fun A σ Z s x Q E hA S hx hQ hE=>?_;subst hx;have X:K.In s.heap:=S.kin;have hstub:opaqueClassAbove (.type T)=pure none:=by unfold opaqueClassAbove;dsimp only;rw[hs];rfl
 have L0:Looks (model prog w) s.heap (typeOf (.type T)) (.type "type"):=Looks.of_pure (kitMeta_of ht);have LO:Looks (model prog w) s.heap (opaqueClassAbove (.type T)) none:=Looks.of_pure hstub;have hg:findIn K (.type "type") "__getattribute__"=some (some (.builtin "type.__getattribute__")):=type_tga;refine cls_open X LO L0 hg (looks_hook X (r:=none) (by rfl)) (by show subIn K _ _=_;rfl) e ?_;show wpAny _ _ (do ret (←holding [Value.builtin "type.__name__"] (call (.builtin "getset_descriptor.__get__") [.builtin "type.__name__",.type T,.type "type"]))) _ _ _;refine wpAny_bind (wpAny_holding (wpAny_call (ktyn_get (s:={s with toks:=s.toks+1}) (kitMeta_of ht) hq hz ?_)));exact wpAny_pure (handed_on rfl (hQ _ _ σ _ _ (Go.tok ..) (S.tok _) VR.str h))
inductive gZ (K:Frag) (a:Addr) (body:List Stmt) (sc:Scope) (ns:List Str):Prop
 | mk (o:Obj) (fd:FuncData):K.lookup a=some o→o.data=.func fd→(∃ c oc vs t,fd.code=.ref c∧K.lookup c=some oc∧oc.data=.fields vs∧vs[1]? =some (.str fd.qualname t))→fd.body=.stmts body→fd.scope=sc→qS fd ns=true→(∀ vs:List Value,vs.length=ns.length→bindArgs fd ⟨vs,[]⟩=pure (ns.zip vs))→o.cls=.type "function"→keepIn K (.ref a)=true→gZ K a body sc ns
inductive qC (K:Frag) (a:Addr) (body:List Stmt) (sc:Scope) (ns:List Str) (Bf:FuncData→Prop):Prop
 | mk (o:Obj) (fd:FuncData):K.lookup a=some o→o.data=.func fd→(∃ c oc vs t,fd.code=.ref c∧K.lookup c=some oc∧oc.data=.fields vs∧vs[1]? =some (.str fd.qualname t))→fd.body=.stmts body→fd.scope=sc→qS fd ns=true→Bf fd→o.cls=.type "function"→keepIn K (.ref a)=true→qC K a body sc ns Bf
noncomputable def w8(K:Frag)(fd:FuncData)(n:Nat)(names:List Str)(m:Nat)(ns:List Str)(ext:List Value→List Value):Prop:=
 ∀ (S:Setting) (vs:List Value),vs.length=m→peek K S (bindArgs fd ⟨vs.take n,names.zip (vs.drop n)⟩)=some (ns.zip (ext vs))
noncomputable def Bz(K:Frag)(fd:FuncData)(n:Nat)(names:List Str)(m:Nat)(ns:List Str)(key:Option Str):Prop:=
 ∀ (S:Setting) (vs:List Value),vs.length=m→∃ g,peekA K S (bindArgs fd ⟨vs.take n,names.zip (vs.drop n)⟩)=some ({cls:=.type "dict",data:=.dict #[]},g)∧
  ∀ D,g D=(match key with | none=>pure (ns.zip (vs++[.ref D])) | some x=>(do nsSet D x (vs.getD n .none);pure (ns.zip (vs.take n++[.ref D]))))
inductive xi (K:Frag) (a:Addr) (code:List Nat):Prop
 | mk (fs:Array Value) (T:Addr) (ws:Array Value) (n:Nat):K.lookup a=some {cls:=.type "re.Pattern",data:=.fields fs}→fs.getD 5 .none=.ref T→Builtin.Re.reRawNat (fs.getD 2 .none)=0→Builtin.Re.reRawNat (fs.getD 6 .none)=0→
  K.lookup T=some {cls:=.type "tuple",data:=.seq ws n}→((ws.map Builtin.Re.reRawOf).map (·.toNat)).toList=code→xi K a code
noncomputable def yE:List Nat:=[14,10,4,1,1,22,0,31,16,127,0,13,7,22,0,31,16,127,0,1]
noncomputable def wD:List Nat:=[14,14,4,1,1,9,4294966783,0,0,2147483648,0,0,0,0,0,13,11,9,4294966783,0,0,2147483648,0,0,0,0,0,1]
noncomputable def lw:List String:=["len","range","enumerate","tuple","max","min","sum","all","zip","list","str","repr","type","TypeError","AttributeError","ValueError","AssertionError"]
noncomputable def ss:List (String × Nat):=[("SubElement",47),("_serialize_text",54),("_raise_serialization_error",61),("_escape_cdata",68),("_escape_attrib",75),("_escape_attrib_html",82),("_escape_cdata_c14n",89),("_escape_attrib_c14n",96),("Whitespace",158),
 ("_name_disallowed_re",172),("_value_disallowed_re",177),("Headers",306),("_law_spelled",315),("_law_text",322),("_law_column",329),("_law_leads",334),("_law_hung",339),("_law_laid",346),("_law_make",353),("_law_grow",360),("_law_written",367),("_law_page",372)]
structure bI(K:Frag):Prop where
 blt:∀ x∈lw,nsIn K mainGlobals (Str.ofString x)=some none
 gl:∀ p∈ss,nsIn K mainGlobals (Str.ofString p.1)=some (some (.ref p.2))
 fn:∀ p∈[(61,5,["text"]),(68,6,["text"]),(75,7,["text"]),(82,8,["text"]),(89,9,["text"]),(96,10,["text"]),(54,4,["write","elem"]),(315,20,["hand","text"]),(322,21,["hand","cell"]),(329,22,["lead","size"]),(334,23,["cells"]),(339,24,["told"]),
  (346,25,["head","hang","ups","write","bare","ends"]),(353,26,["tag","attrib"]),(360,27,["things","letter","hang","head","ends"]),(367,28,["thing"]),(372,29,["place","ups","kept","tails"]),(377,30,["script"])],gZ K p.1 (av p.2.1) (aj p.2.1) (p.2.2.map Str.ofString)
 ws:kH K 158 157
 wsNo:∀ x∈["__getattribute__","__getattr__","__setattr__","raw","n","nt","norm","is_simple"],nsIn K 157 (Str.ofString x)=some none
 wsM:∀ p∈[("__init__",113),("longest_run_of_spaces",120),("indent_level",127),("less",148)],nsIn K 157 (Str.ofString p.1)=some (some (.ref p.2))
 wsF:∀ p∈[(113,1,["self","ws"]),(120,2,["self"]),(127,3,["self","tabsize"]),(148,6,["self","other"])],gZ K p.1 (dw 12 p.2.1) (bT 12 p.2.1) (p.2.2.map Str.ofString)
 wsS:readsIn K 158 (.type "type")=true∧(∃ t,findCls K (.ref 158) (.type "type") (Str.ofString "S")=some (.val (.str (Str.ofString " ") t)))∧∃ t,findCls K (.ref 158) (.type "type") (Str.ofString "T")=some (.val (.str (Str.ofString "\t") t))
 hs:kH K 306 305
 hsNo:∀ x∈["__getattribute__","__getattr__","__setattr__","_headers"],nsIn K 305 (Str.ofString x)=some none
 hsM:∀ p∈[("__init__",200),("_convert_string_type",207),("get_all",245),("get",253),("items",270),("add_header",303)],nsIn K 305 (Str.ofString p.1)=some (some (.ref p.2))
 hsF:∀ p∈[(245,7,["self","name"]),(270,11,["self"])],gZ K p.1 (dw 18 p.2.1) (bT 18 p.2.1) (p.2.2.map Str.ofString)
 hsInit:qC K 200 (dw 18 0) (bT 18 0) (["self","headers"].map Str.ofString) fun fd=>w8 K fd 1 [] 1 (["self","headers"].map Str.ofString) (fun vs=>vs++[.none])∧w8 K fd 2 [] 2 (["self","headers"].map Str.ofString) id
 hsConv:qC K 207 (dw 18 1) (bT 18 1) (["self","value","name"].map Str.ofString) fun fd=>w8 K fd 2 ["name"] 3 (["self","value","name"].map Str.ofString) id
 hsGet:qC K 253 (dw 18 8) (bT 18 8) (["self","name","default"].map Str.ofString) fun fd=>w8 K fd 3 [] 3 (["self","name","default"].map Str.ofString) id
 hsAdd:qC K 303 (dw 18 16) (bT 18 16) (["self","_name","_value","_params"].map Str.ofString) fun fd=>Bz K fd 3 [] 3 (["self","_name","_value","_params"].map Str.ofString) none
 sub:qC K 47 (av 3) (aj 3) (["parent","tag","attrib","extra"].map Str.ofString) fun fd=>Bz K fd 3 ["tail"] 4 (["parent","tag","attrib","extra"].map Str.ofString) (some "tail")
 pats:xi K 172 yE∧xi K 177 wD
 keep:keepIn K (.ref 158)=true∧keepIn K (.ref 306)=true
variable{kx:X→Hp→Prop}
variable{a:Addr}
theorem gZ.obj{ns:List Str}(f:gZ K a body sc ns):∃ o fd,K.lookup a=some o∧o.data=.func fd:=by cases f;exact⟨_,_,‹_›,‹_›⟩
theorem gZ.at{ns:List Str}(f:gZ K a body sc ns):(∃ o,K.lookup a=some o∧o.cls=.type "function")∧keepIn K (.ref a)=true:=by cases f;exact⟨⟨_,‹_›,‹_›⟩,‹_›⟩
theorem qC.at{ns:List Str}{Bf:FuncData→Prop}(f:qC K a body sc ns Bf):(∃ o,K.lookup a=some o∧o.cls=.type "function")∧keepIn K (.ref a)=true:=by cases f;exact⟨⟨_,‹_›,‹_›⟩,‹_›⟩
variable{ρ0:ai}
theorem kh{ns:List Str}{Bf:FuncData→Prop}(f:qC K a body sc ns Bf)(hl:ys.length=ns.length)(hρ:ns.zip ys=ρ0)(hb:∀ fd,Bf fd→Bd prog w K fd ar xs ns ys H)(h:∀ env:Env,Sc env sc (own env)→Ex prog w K d ⟨hd.h,some env⟩ env ρ0 (execs body env) H (z3 k) (vf kx)):
  Pr prog w K (d+1) hd xs (fun vs=>call (.ref a) (ar vs).pos (ar vs).kw) H k kx:=by
 obtain⟨o,fd,h1,h2,h3,h4,h5,h6,h7,h8,h9⟩:=f;subst h5 hρ;exact vR h1 h2 h3 h4 h6 hl (hb fd h7) h
variable{n m:Nat}
theorem BS{ns:List Str}{ext:List Value→List Value}(hb:w8 K fd n names m ns ext)(hl:xs.length=m)(he:∀ (P:Params) (h:Heap) (σ Z:List Addr) (vs:List Value),ak P h σ Z xs vs→ak P h σ Z ys (ext vs)):Bd prog w K fd (fun vs=>⟨vs.take n,names.zip (vs.drop n)⟩) xs ns ys H:=by
 intro A σ Z s vs Q E S hv hQ;exact(Looks.of_peek (M:=model prog w) S.kin (hb _ vs (hv.length.symm.trans hl))).here (hQ _ s (Go.refl ..) S (he _ _ _ _ _ hv))
theorem vS{ns:List Str}(f:gZ K a body sc ns)(hl:xs.length=ns.length)(h:∀ env:Env,Sc env sc (own env)→Ex prog w K d ⟨hd.h,some env⟩ env (ns.zip xs) (execs body env) H (z3 k) (vf kx)):
  Pr prog w K (d+1) hd xs (fun vs=>call (.ref a) vs) H k kx:=by
 obtain⟨o,fd,h1,h2,h3,h4,h5,h6,h7,h8,h9⟩:=f;subst h5;exact xP h1 h2 h3 h4 h6 hl h7 h
structure BN(x:String)(v:Value):Prop where
 hm:x∈lw
 hb:bootBuiltins (Str.ofString x)=some v
 hne:Str.ofString x≠"__name__"
 hx:(Str.ofString x==("__debug__":Str))=false
variable{x:String}
theorem lE(ok:bI K){Xw:List Addr}(hsc:Sc env sc Xw)(hl:sc.names.lookup (Str.ofString x)=some .globalImplicit)(q:BN x v)(hu:(∃ id,v=.builtin id∧u=.bi id)∨(∃ n,v=.type n∧u=.ty n))(h:k u H):Ev prog w K d hd env ρ (eval (.Name (Str.ofString x) pos) env) H k kx:=
 Aa (hsc.glob _ hl) (ok.blt x q.hm) q.hb q.hne hu h q.hx
theorem eE(ok:bI K){Xw:List Addr}(hsc:Sc env sc Xw)(hm:(x,a)∈ss)(hl:sc.names.lookup (Str.ofString x)=some .globalImplicit)(hx:(Str.ofString x==("__debug__":Str))=false)(h:k (.gl a) H):Ev prog w K d hd env ρ (eval (.Name (Str.ofString x) pos) env) H k kx:=
 xK (hsc.glob _ hl) (ok.gl _ hm) h hx
variable{e:PySem.Expr}
theorem cQ(ok:bI K){Xw:List Addr}(hsc:Sc env sc Xw){id:String}(hl:sc.names.lookup (Str.ofString x)=some .globalImplicit)(q:BN x (.builtin id))(he:starEach (e::rest) env=(false,eval e env)::starEach rest env)(hplain:(backTo pos (starEach rest env)).any (·.1)=false)(h:Es prog w K d hd env ρ (spliced (backTo pos (starEach (e::rest) env))) H (tz prog w K d hd (fun vs=>call (.builtin id) vs) k kx) kx):Ev prog w K d hd env ρ (eval (.Call (.Name (Str.ofString x) p) (e::rest) [] pos) env) H k kx:=
 ou (.bi id) he hplain (lE ok hsc hl q (.inl ⟨id,rfl,rfl⟩) ⟨rfl,h⟩)
theorem iq(ok:bI K){Xw:List Addr}(hsc:Sc env sc Xw){id:String}(hl:sc.names.lookup (Str.ofString x)=some .globalImplicit)(q:BN x (.type id))(he:starEach (e::rest) env=(false,eval e env)::starEach rest env)(hplain:(backTo pos (starEach rest env)).any (·.1)=false)(h:Es prog w K d hd env ρ (spliced (backTo pos (starEach (e::rest) env))) H (tz prog w K d hd (fun vs=>call (.type id) vs) k kx) kx):Ev prog w K d hd env ρ (eval (.Call (.Name (Str.ofString x) p) (e::rest) [] pos) env) H k kx:=
 ou (.ty id) he hplain (lE ok hsc hl q (.inr ⟨id,rfl,rfl⟩) ⟨rfl,h⟩)
theorem cp(ok:bI K){Xw:List Addr}(hsc:Sc env sc Xw){id:String}(hl:sc.names.lookup (Str.ofString x)=some .globalImplicit)(q:BN x (.type id))(he:starEach (e::rest) env=(false,eval e env)::starEach rest env)(hplain:(backTo pos (starEach rest env)).any (·.1)=false)(h:Es prog w K d hd env ρ (spliced (backTo pos (starEach (e::rest) env))) H (zZ prog w K d hd tg (fun vs=>call (.type id) vs) kI) kx):Ie prog w K d hd env ρ tg (eval (.Call (.Name (Str.ofString x) p) (e::rest) [] pos) env) H kI kx:=
 x7 (.ty id) he hplain (lE ok hsc hl q (.inr ⟨id,rfl,rfl⟩) ⟨rfl,h⟩)
theorem eV(ok:bI K){Xw:List Addr}(hsc:Sc env sc Xw)(hm:(x,a)∈ss)(hf:∃ o fd,K.lookup a=some o∧o.data=.func fd)(hl:sc.names.lookup (Str.ofString x)=some .globalImplicit)(hx:(Str.ofString x==("__debug__":Str))=false)(he:starEach (e::rest) env=(false,eval e env)::starEach rest env)(hplain:(backTo pos (starEach rest env)).any (·.1)=false)(h:Es prog w K d hd env ρ (spliced (backTo pos (starEach (e::rest) env))) H (tz prog w K d hd (fun vs=>call (.ref a) vs) k kx) kx):Ev prog w K d hd env ρ (eval (.Call (.Name (Str.ofString x) p) (e::rest) [] pos) env) H k kx:=by
 revert hf;refine aV fun o fd h1 h2=>?_
 exact ou (.gl h1 h2) he hplain (eE ok hsc hm hl hx ⟨rfl,h⟩)
theorem zQ:bootBuiltins "len"=some (.builtin "len"):=by walk_at "k"
theorem zR:bootBuiltins "max"=some (.builtin "max"):=by walk_at "k"
theorem zS:bootBuiltins "min"=some (.builtin "min"):=by walk_at "k"
theorem zU:bootBuiltins "sum"=some (.builtin "sum"):=by walk_at "k"
theorem zP:bootBuiltins "all"=some (.builtin "all"):=by walk_at "k"
theorem xm:bootBuiltins "repr"=some (.builtin "repr"):=by walk_at "k"
theorem u6:bootBuiltins "range"=some (.type "range"):=by walk_at "k"
theorem n7:bootBuiltins "enumerate"=some (.type "enumerate"):=by walk_at "k"
theorem u7:bootBuiltins "tuple"=some (.type "tuple"):=by walk_at "k"
theorem zV:bootBuiltins "zip"=some (.type "zip"):=by walk_at "k"
theorem xl:bootBuiltins "list"=some (.type "list"):=by walk_at "k"
theorem zT:bootBuiltins "str"=some (.type "str"):=by walk_at "k"
theorem xn:bootBuiltins "type"=some (.type "type"):=by walk_at "k"
theorem eh:bootBuiltins "TypeError"=some (.type "TypeError"):=by walk_at "k"
theorem iS:bootBuiltins "AttributeError"=some (.type "AttributeError"):=by walk_at "k"
theorem cG:bootBuiltins "ValueError"=some (.type "ValueError"):=by walk_at "k"
theorem eT:bootBuiltins "AssertionError"=some (.type "AssertionError"):=by walk_at "k"
theorem vc:BN "all" (.builtin "all"):=⟨by walk_at "k",zP,by walk_at "k",by kernel_rfl⟩
theorem iU:BN "enumerate" (.type "enumerate"):=⟨by walk_at "k",n7,by walk_at "k",by kernel_rfl⟩
theorem eA:BN "len" (.builtin "len"):=⟨by walk_at "k",zQ,by walk_at "k",by kernel_rfl⟩
theorem n8:BN "list" (.type "list"):=⟨by walk_at "k",xl,by walk_at "k",by kernel_rfl⟩
theorem vd:BN "max" (.builtin "max"):=⟨by walk_at "k",zR,by walk_at "k",by kernel_rfl⟩
theorem zW:BN "min" (.builtin "min"):=⟨by walk_at "k",zS,by walk_at "k",by kernel_rfl⟩
theorem aJ:BN "range" (.type "range"):=⟨by walk_at "k",u6,by walk_at "k",by kernel_rfl⟩
theorem xt:BN "repr" (.builtin "repr"):=⟨by walk_at "k",xm,by walk_at "k",by kernel_rfl⟩
theorem ly:BN "str" (.type "str"):=⟨by walk_at "k",zT,by walk_at "k",by kernel_rfl⟩
theorem qG:BN "sum" (.builtin "sum"):=⟨by walk_at "k",zU,by walk_at "k",by kernel_rfl⟩
theorem ve:BN "tuple" (.type "tuple"):=⟨by walk_at "k",u7,by walk_at "k",by kernel_rfl⟩
theorem iV:BN "type" (.type "type"):=⟨by walk_at "k",xn,by walk_at "k",by kernel_rfl⟩
theorem zX:BN "zip" (.type "zip"):=⟨by walk_at "k",zV,by walk_at "k",by kernel_rfl⟩
theorem iJ{n:String}{m:Str}(FX:ExcStrFacts cls n)(h:k (.str m) H):Pr prog w K (d+1) hd [.exc cls [.str m]] (fun vs=>call (.type "str") vs) H k kx:=by
 refine bu fun A σ Z s a Q E hA S ha hQ hE=>?_;obtain⟨e,o,fs,t,ws,rfl,f,ho,hc,hdat,h0,ft,⟨ot,hot,hotc,nt,hotd⟩,hl⟩:=ha;obtain⟨x,hx,hm⟩:=hl.inv1
 revert hm;refine af fun tk t=>?_;obtain rfl:=t
 have hw:ws=[Value.str m tk].toArray:=by rw[←hx]
 exact P.str_of_exc_one (tk:=tk) FX (by have:=hA.u40;omega) ⟨o,fs,ho,hc,hdat,h0⟩ ⟨ot,nt,hot,hotc,hw▸hotd⟩ (hQ _ s σ (.str m) H (Go.refl ..) S VR.str h)
theorem kT(h:Ev prog w K d hd env ρ (eval e env) H (fun u H1=>∃ i,u=.int i∧k (.int (-i)) H1) kx):Ev prog w K d hd env ρ (eval (.UnaryOp .USub e pos) env) H k kx:=by
 intro A σ Z s Q E hA S F hQ hE;rw[arm_eval_UnaryOp];refine wpAny_bind (h A σ Z s _ _ hA S F (fun v s1 σ1 u H1 g1 S1 hu hk=>wpAny_bind (wpAny_standAt (wpAny_holding ?_))) hE)
 revert hk;refine ab fun i q hk=>?_;obtain rfl:=q
 revert hu;refine af fun t t=>?_;obtain rfl:=t
 exact P.neg_int (hQ _ _ σ1 _ H1 (g1.trans (Go.tok Z σ1 [] s1 _)) (S1.tok _) VR.int hk)
mutual
noncomputable def V.oldB(n:Nat):V→Bool
 | .ob r=>decide (r < n)
 | .ins _ r=>decide (r < n)
 | .tup l | .lst l | .dct _ l | .fin _ _ l | .thg _ l | .clo _ _ l | .exc _ l=>bU n l
 | .bm _ x=>V.oldB n x
 | .slc .. =>false
 | _=>true
noncomputable def bU(n:Nat):List V→Bool
 | []=>true
 | x::l=>V.oldB n x&&bU n l
end
noncomputable def Ob.oldB(n:Nat):Ob→Bool
 | .l xs=>bU n xs
 | .d _ xs=>bU n xs
 | .n _ xs=>bU n xs
 | .f none=>true
 | .f (some r)=>decide (r < n)
noncomputable def pE(n:Nat)(H:Hp):Bool:=H.all (Ob.oldB n)
variable{a b:Bool}
theorem kc(h:(a&&b)=true):a=true∧b=true:=Bool.and_eq_true_iff.mp h
theorem fJ(h1:a=true)(h2:b=true):(a&&b)=true:=Bool.and_eq_true_iff.mpr ⟨h1,h2⟩
theorem gr{x:V}(h1:x.oldB n=true)(h2:bU n l=true):bU n (x::l)=true:=fJ h1 h2
theorem aC{α:Type}(n:Nat)(f:α→V)(h:∀ a,(f a).oldB n=true):∀ l:List α,bU n (l.map f)=true
 | []=>rfl
 | a::l=>gr (h a) (aC n f h l)
mutual
theorem du.same{H:Hp}{n:Nat}:∀ (u:V),u.oldB n=true→du H n u u
 | .none=>fun J=>.none
 | .bool _=>fun J=>.bool
 | .int _=>fun J=>.int
 | .str _=>fun J=>.str
 | .bi _=>fun J=>.bi
 | .ty _=>fun J=>.ty
 | .gl _=>fun J=>.gl
 | .tup l=>fun h=>.tup (aM.same l h)
 | .lst l=>fun h=>.lst (aM.same l h)
 | .dct _ l=>fun h=>.dct (aM.same l h)
 | .fin _ _ l=>fun h=>.fin (aM.same l h)
 | .thg _ l=>fun h=>.thg (aM.same l h)
 | .clo _ _ l=>fun h=>.clo (aM.same l h)
 | .exc _ l=>fun h=>.exc (aM.same l h)
 | .bm _ x=>fun h=>.bm (du.same x h)
 | .ob r=>fun h=>.old (of_decide_eq_true h)
 | .ins _ r=>fun h=>.oldi (of_decide_eq_true h)
 | .slc .. =>fun h=>ft h
theorem aM.same{H:Hp}{n:Nat}:∀ (l:List V),bU n l=true→aM H n l l
 | []=>fun J=>.nil
 | x::l=>fun h=>.cons (du.same x (kc h).1) (aM.same l (kc h).2)
end
theorem kJ.same:∀ (o:Ob),o.oldB n=true→kJ H n o o
 | .l xs=>fun h=>.l (aM.same xs h)
 | .d _ xs=>fun h=>.d (aM.same xs h)
 | .n _ xs=>fun h=>.n (aM.same xs h)
 | .f none=>fun J=>.f0
 | .f (some r)=>fun h=>.f (of_decide_eq_true h)
theorem jG.same{H:Hp}{n:Nat}:∀ (l:Hp),pE n l=true→jG H n l l
 | []=>fun J=>.nil
 | o::l=>fun h=>.cons (kJ.same o (kc h).1) (jG.same l (kc h).2)
variable{u':V}
theorem gK{τ:Hp}(hH:pE H.length H=true)(hu:du (H++τ) H.length u u')(h:k u' H):DN H.length k u (H++τ):=
 ⟨u',H,hu,by rw[List.take_left];exact jG.same H hH,h⟩
variable{kx:X→Hp→Prop}
variable{x:Str}
theorem uC{ks:List Str}(hr:H[r]? =some (.d ks l))(h:k (.bool (decide (x∈ks))) H):Pr prog w K d hd [.str x,.ob r] (kL .In) H k kx:=by
 refine az fun A σ Z s b a Q E hA S h2 h1 hQ hE=>?_;obtain⟨a,rfl,ea⟩:=h1
 revert h2;refine af fun t t=>?_;obtain rfl:=t
 obtain⟨vs,hd,hvs⟩:=S.ob ea hr;refine wpAny_in_of (knd:=strKind prog w) (k:=x) (by show(x==x)=true;simp) (k9 (S.ks a (List.mem_of_getElem? ea))) hd.of.mapOf ?_
 have e:(valueAt (ks.zip vs) x).isSome=decide (x∈ks):=by
  obtain⟨o,es,n,e1,hx,hdd,hk,hp,hn⟩:=hd
  by_cases hm:x∈ks
  ·rw[decide_eq_true hm,jy (eK hp) hm]
  ·rw[decide_eq_false hm,jx hm];rfl
 rw[e];exact hQ (.bool (decide (x∈ks))) _ σ (.bool (decide (x∈ks))) H (Go.tok ..) (S.tok _) VR.bool h
variable{c:Nat}
theorem cX(h0:0≤i)(h1:i < 2 ^ 63)(hc:x.cps[i.toNat]? =some c)(h:k (.str ⟨#[c]⟩) H):Pr prog w K d hd [.str x,.int i] gI H k kx:=by
 refine az fun A σ Z s a b Q E hA S ha hb hQ hE=>?_
 revert ha;refine af fun t t=>?_;obtain rfl:=t
 revert hb;refine af fun u t=>?_;obtain rfl:=t
 refine P.getItem_str (c:=c) ?_ ?_ (hQ _ _ σ _ H (Go.tok ..) (S.tok _) VR.str h)
 ·have a1:decide (i < -(2 ^ 63:Int))=false:=decide_eq_false (by omega);have a2:decide (i≥2 ^ 63)=false:=decide_eq_false (by omega);rw[a1,a2];rfl
 ·have hlt:i.toNat < x.cps.size:=(Array.getElem?_eq_some_iff.mp hc).1;have hx:x.length=x.cps.size:=rfl;have hj:(if i < 0 then i+(x.length:Int) else i)=i:=if_neg (Int.not_lt.mpr h0);have h3:i < (x.length:Int):=by rw[hx];omega
  have e:(decide (0≤i)&&decide (i < (x.length:Int)))=true:=by
   rw[Bool.and_eq_true,decide_eq_true_eq,decide_eq_true_eq];exact⟨h0,h3⟩
  unfold seqIndex?;simp only[hj];rw[if_pos e];exact hc
theorem ki:Gm K w.params (.str x) (Str.ofString "index") "str.index" H:=lM F.slot_str_index F.type_str_index
variable{i:Nat}
theorem jt{y:Str}{rest:List Nat}(ho:Builtin.Str.occurrences x y 0 x.length 1=i::rest)(h:k (.int i) H):Pr prog w K d hd [.str x,.str y] (fun vs=>call (.builtin "str.index") vs) H k kx:=by
 refine az fun A σ Z s a b Q E hA S ha hb hQ hE=>?_
 revert ha;refine af fun t t=>?_;obtain rfl:=t
 revert hb;refine af fun u t=>?_;obtain rfl:=t
 exact call_gives F.slot_str_index (typeIs_str _ _ _) F.entry_str_index (F.args_str_index_2 _ _) (gives_str_index x y t u i rest ho) (hQ _ _ σ _ H (Go.tok ..) (S.tok _) VR.int h)
theorem t8(hr:H[r]? =some (.l l)):Gm K w.params (.ob r) (Str.ofString "extend") "list.extend" H:=by
 intro M A σ Z s v pl Q E S hv hQ;obtain⟨a,rfl,ea⟩:=hv;obtain⟨ys,⟨n,ho⟩,_⟩:=S.ob ea hr;exact getMethod_builtin (T:="list") ⟨_,ho,rfl⟩ F.plainAttrs_list F.slot_list_extend F.type_list_extend (fun b e=>by exists e;exact⟨_,ho,rfl⟩) hQ
theorem uA{m:List V}(hr:H[r]? =some (.l l))(hu:u=.lst m∨∃ r2,r2≠r∧u=.ob r2∧H[r2]? =some (.l m))(hl:l.length+m.length≤1000)(h:k .none (H.set r (.l (l++m)))):Pr prog w K d hd [.ob r,u] (fun vs=>call (.builtin "list.extend") vs) H k kx:=by
 refine az fun A σ Z s a b Q E hA S q1 q2 hQ hE=>?_;obtain⟨a,rfl,ea⟩:=q1;obtain⟨ys,⟨n,hpl⟩,hys⟩:=S.ob ea hr
 have q3:∃ b' zs n2,b=.ref b'∧s.heap.get? b'=some {cls:=.type "list",dict:=none,data:=.seq zs n2,slots:= #[]}∧ak w.params s.heap σ Z m zs.toList:=by
  rcases hu with rfl | ⟨r2,hne,rfl,hr2⟩
  ·obtain⟨b',zs,e,f,⟨n2,ho⟩,hl⟩:=q2;exact⟨b',zs,n2,e,ho,hl⟩
  ·obtain⟨b',e,eb⟩:=q2;obtain⟨zs,⟨n2,ho⟩,hl⟩:=S.ob eb hr2;exact⟨b',zs,n2,e,ho,hl⟩
 revert q3;refine uw fun b zs n2 q t=>?_;obtain rfl:=q;revert t;refine am fun hb hzs=>?_
 have s1:ys.size=l.length:=by rw[hys.length];simp
 have s2:zs.size=m.length:=by rw[hzs.length];simp
 have big:ys.size+zs.size≤1000:=by omega
 have k1:ys.size≤sizeLine:=Nat.le_trans (by omega:ys.size≤1000) (by decide);have k2:ys.size+zs.size≤sizeLine:=Nat.le_trans big (by decide);refine call_meets F.slot_list_extend ⟨_,hpl,rfl⟩ F.entry_list_extend (F.args_list_extend_2 _ _) (AutoSeq1.list_extend_list_list_0 a ys n b zs n2 (extend_door k2) k1 (Nat.le_succ_of_le k2)) ⟨hpl,hb,?_⟩
 have ho':(s.heap.update a (Obj.mapSeq fun x=>x++zs)).get? a=some {cls:=.type "list",data:=.seq (ys++zs) (if (ys++zs).size==ys.size then n else n+1)}:=by
  rw[Heap.get?_update_self _ hpl (by rfl)];rfl
 have hs:Heap.SameBut a s.heap (s.heap.update a (Obj.mapSeq fun x=>x++zs)):=Heap.SameBut.update ..
 have hdd:∀ o,s.heap.get? a=some o→∃ o',(s.heap.update a (Obj.mapSeq fun x=>x++zs)).get? a=some o'∧(cT o=true→cT o'=true):=fun o e=>by
  rw[hpl] at e;exists e;exact⟨_,ho',fun h=>by exists h⟩
 have g:=Go.setOb (Z:=Z) S (List.mem_of_getElem? ea) s.toks hs hdd;refine hQ .none _ σ .none _ g (S.setOb (ob:=.l (l++m)) ea s.toks hs hdd ⟨ys++zs,⟨_,ho'⟩,?_⟩) VR.none' h;rw[Array.toList_append];exact ak.app (ak.go g (fun J h=>nomatch h) _ hys) (ak.go g (fun J h=>nomatch h) _ hzs)
theorem ja{M:Model}{Γ:Ctx}{Q:Flow→Pos→Shared→Prop}{E:Value→Pos→Shared→Prop}{l2:List Stmt}:∀ (l1:List Stmt) (p:Pos) (s:Shared),Sem.wp M Γ (execs l1 env) (fun f p' s'=>match f with | .next=>Sem.wp M Γ (execs l2 env) Q E p' s' | f=>Q f p' s') E p s→Sem.wp M Γ (execs (l1++l2) env) Q E p s
 | []=>fun p s h=>h
 | st::r=>fun p s h=>by
  show Sem.wp M Γ (execs (st::(r++l2)) env) Q E p s;rw[execs_cons,Sem.wp_bind'] at h ⊢;refine Sem.wp_mono M Γ _ (fun f p' s' q=>?_) (fun J J J q=>q) _ _ h;cases f with
  | next=>exact ja r p' s' q
  | brk=>exact q
  | cont=>exact q
  | ret v=>exact q
variable{l1 l2:List Stmt}
theorem tY{M:Model}{Q:Flow→Shared→Prop}(h:wpAny M A (execs l1 env) (fun f s1=>match f with | .next=>wpAny M A (execs l2 env) Q E s1 | f=>Q f s1) E s):wpAny M A (execs (l1++l2) env) Q E s:=by
 intro Γ p hΓ;refine ja l1 p s (Sem.wp_mono M Γ _ (fun f p' s' q=>?_) (fun J J J q=>q) _ _ (h Γ p hΓ));cases f with
 | next=>exact q Γ p' hΓ
 | brk=>exact q
 | cont=>exact q
 | ret v=>exact q
theorem jP{kxs:X→ai→Hp→Prop}(h:Ex prog w K d hd env ρ (execs l1 env) [] (fun fl ρ' H'=>match fl with | .next=>∃ ρ'',(∀ x u',(x,u')∈ρ''→∃ u,(x,u)∈ρ'∧du H' 0 u u')∧Ex prog w K d hd env ρ'' (execs l2 env) [] ks kxs | fl=>ks fl ρ' H') kxs):Ex prog w K d hd env ρ (execs (l1++l2) env) [] ks kxs:=by
 intro A σ Z s Q E hA S F hQ hE;have hσ:σ=[]:=List.length_eq_zero_iff.mp S.len;subst hσ;refine tY (h A [] Z s _ _ hA S F (fun f s1 σ1 fl ρ1 H1 g1 S1 F1 hf hk=>?_) hE);cases fl with
 | next=>
  have e:f=.next:=hf;subst e
  revert hk;refine ab fun ρ2 hρ hk=>?_
  have g1':Go Z [] (own env) s [] s1:=Go.freeze (τ:=σ1) (by simpa using g1);have S1':St K w.params A ([]++σ1) Z H1 s1:=by simpa using S1
  have S2:St K w.params A [] Z [] s1:=S1'.freeze .nil
  have F2:FR w.params [] Z env ρ2 s1.heap:=by
   refine⟨F1.kind,F1.glob,F1.blt,?_,fun x u e1 e2=>?_,fun x u e1=>?_,F1.locZ,fun x c hm=>⟨(F1.celZ x c hm).1.imp (fun h=>h) fun⟨f,k⟩=>⟨⟨f.lo,List.not_mem_nil,f.nz⟩,k⟩,(F1.celZ x c hm).2⟩,F1.one,F1.cex,fun x u e1=>?_,F1.celD⟩
   ·obtain⟨m,hm,q⟩:=F1.ns;refine⟨m,hm,fun x u' e1 e2=>?_⟩;refine ab (fun u e3 hz=>?_) (hρ x u' e1);refine ab (fun v e4 hv=>?_) (q x u e3 e2);exact⟨v,e4,du.vr (σ:=[]) (τ:=σ1) S1' hz (by simpa using hv)⟩
   ·refine ab (fun u0 e3 hz=>?_) (hρ x u e1);refine ee (fun c v e4 hc hv=>?_) (F1.cell x u0 e3 e2);exact⟨c,v,e4,hc,du.vr (σ:=[]) (τ:=σ1) S1' hz (by simpa using hv)⟩
   ·refine ab (fun u0 e3 J=>?_) (hρ x u e1);exact F1.all x u0 e3
   ·refine ab (fun u0 e3 J=>?_) (hρ x u e1);exact F1.plain x u0 e3
  exact hk A [] Z s1 _ _ hA S2 F2 (hQ.seq g1') (hE.seq g1')
 | brk=>have e:f=.brk:=hf;subst e;exact hQ _ s1 σ1 .brk ρ1 H1 g1 S1 F1 rfl hk
 | cont=>have e:f=.cont:=hf;subst e;exact hQ _ s1 σ1 .cont ρ1 H1 g1 S1 F1 rfl hk
 | ret u=>
  revert hf;refine ab fun v q hv=>?_;obtain rfl:=q
  exact hQ _ s1 σ1 (.ret u) ρ1 H1 g1 S1 F1 ⟨v,rfl,hv⟩ hk
variable{kx:X→Hp→Prop}
theorem dN(h:kb true H):Eb prog w K d hd env ρ (gW [] env) H kb kx:=by
 intro A σ Z s Q E hA S F hQ hE;unfold gW;exact wpAny_pure (hQ true s σ H (Go.refl ..) S h)
variable{c:PySem.Expr}
theorem cY(h:Eb prog w K d hd env ρ (isTrue c env (eval c env)) H kb kx):Eb prog w K d hd env ρ (gW [c] env) H kb kx:=by
 intro A σ Z s Q E hA S F hQ hE;unfold gW;rw[List.forIn_cons,if_pos rfl];refine wpAny_bind (wpAny_bind (h A σ Z s _ _ hA S F (fun b s' σ' H' g' S' hk=>?_) hE));exact wpAny_pure (wpAny_pure (hQ b s' σ' H' g' S' hk))
theorem jn{cenv:Env}{Xw:List Addr}{elt:PySem.Expr}{g:PySem.Comprehension}{R:ai→Prop}{f:V→V}{p:V→Bool}{ks:List V→ai→Hp→Prop}:
  ∀ (l:List V) (acc:List V) (ρ0:ai),R ρ0→acc.length+l.length≤1000→
  (∀ u∈l,∀ ρ,R ρ→As prog w K d hd cenv Xw ρ (assign g.target cenv) u H (fun ρ1 H1=>Eb prog w K d hd cenv ρ1 (gW g.ifs cenv) H1 (fun ok H2=>H2=H∧R ρ1∧ok=p u∧(ok=true→Ev prog w K d hd cenv ρ1 (eval elt cenv) H (fun v H3=>v=f u∧H3=H) (fun J J=>False))) (fun J J=>False)) (fun J J J=>False))→
  (∀ ρ,R ρ→ks (acc++(l.filter p).map f) ρ H)→eR prog w K d hd cenv Xw g (qD prog w K d hd cenv Xw elt []) l ks acc ρ0 H
 | []=>fun acc ρ0 hR J J hk=>by
  exact(by simpa using hk ρ0 hR:ks acc ρ0 H)
 | u::l=>fun acc ρ0 hR hl hs hk=>by
  have hl':acc.length+(l.length+1)≤1000:=hl;intro A σ Z s v Q E hA S F hv hQ hE;refine hs u List.mem_cons_self ρ0 hR A σ Z s v Q E hA S F hv (fun s' σ' ρ' H' g' S' F' hk'=>hQ s' σ' ρ' H' g' S' F' ?_) hE;intro A σ Z s Q E hA S F hQ hE;refine hk' A σ Z s Q E hA S F (fun b s' σ' H' g' S' hk2=>hQ b s' σ' H' g' S' ?_) hE
  revert hk2;refine fY fun eH hR1 hb he=>?_
  rw[eH];have hs':=fun u hu=>hs u (List.mem_cons_of_mem _ hu);cases b with
  | true=>
   have hp:p u=true:=hb.symm;refine⟨by omega,?_⟩;intro A σ Z s Q E hA S F hQ hE;refine he rfl A σ Z s Q E hA S F (fun v s' σ' x H' g' S' hx hk3=>hQ v s' σ' x H' g' S' hx ?_) hE
   revert hk3;refine am fun ex eH3=>?_
   rw[ex,eH3];refine jn l (acc++[f u]) _ hR1 (by walk_at "s";omega) hs' fun ρ hρ=>?_;have:=hk ρ hρ;rw[List.filter_cons_of_pos hp,List.map_cons] at this
   simpa using this
  | false=>
   have hp:¬ p u=true:=by rw[←hb];decide
   refine jn l acc _ hR1 (by omega) hs' fun ρ hρ=>?_;have:=hk ρ hρ
   rwa [List.filter_cons_of_neg hp] at this
variable{cenv:Env}{ks:List V→ai→Hp→Prop}
theorem pN{Xw:List Addr}(hsc:Sc cenv scope Xw)(f:V→V)(hok:aG scope x=true)(hx:ρ0.all (fun p=>p.1 != x)=true)(hl:l.length≤1000)(hs:∀ u∈l,Ev prog w K d hd cenv ((x,u)::ρ0) (eval elt cenv) H (fun v H3=>v=f u∧H3=H) (fun J J=>False))(hk:∀ ρ,ks (l.map f) ρ H):
  eR prog w K d hd cenv Xw ⟨.Name x pos,iter,[],0⟩ (qD prog w K d hd cenv Xw elt []) l ks [] ρ0 H:=by
 refine jn (R:=fun ρ=>ρ=ρ0∨∃ u,ρ=(x,u)::ρ0) (f:=f) (p:=fun J=>true) l [] ρ0 (.inl rfl) (by simpa using hl) (fun u hu ρ hR=>?_) fun ρ J=>?_
 ·refine ad hsc hok (ρ':=(x,u)::ρ0) ?_ (dN ⟨rfl,.inr ⟨u,rfl⟩,rfl,fun J=>hs u hu⟩);rcases hR with rfl | ⟨u',rfl⟩
  ·intro q hq;rcases List.mem_cons.mp hq with e | hq
   ·exact .inl e
   ·exact .inr ⟨hq,by simpa using (List.all_eq_true.mp hx) q hq⟩
  ·exact ba.here hx
 ·have e:List.filter (fun J:V=>true) l=l:=List.filter_eq_self.mpr fun J J=>rfl;rw[e];exact hk ρ
theorem kj{Xw:List Addr}(hsc:Sc cenv scope Xw)(f:V→V)(p:V→Bool)(hok:aG scope x=true)(hx:ρ0.all (fun p=>p.1 != x)=true)(hl:l.length≤1000)(hc:∀ u∈l,Eb prog w K d hd cenv ((x,u)::ρ0) (isTrue c cenv (eval c cenv)) H (fun b H3=>b=p u∧H3=H) (fun J J=>False))(hs:∀ u∈l,p u=true→Ev prog w K d hd cenv ((x,u)::ρ0) (eval elt cenv) H (fun v H3=>v=f u∧H3=H) (fun J J=>False))(hk:∀ ρ,ks ((l.filter p).map f) ρ H):
  eR prog w K d hd cenv Xw ⟨.Name x pos,iter,[c],0⟩ (qD prog w K d hd cenv Xw elt []) l ks [] ρ0 H:=by
 refine jn (R:=fun ρ=>ρ=ρ0∨∃ u,ρ=(x,u)::ρ0) (f:=f) (p:=p) l [] ρ0 (.inl rfl) (by simpa using hl) (fun u hu ρ hR=>?_) fun ρ J=>?_
 ·refine ad hsc hok (ρ':=(x,u)::ρ0) ?_ (cY ?_)
  ·rcases hR with rfl | ⟨u',rfl⟩
   ·intro q hq;rcases List.mem_cons.mp hq with e | hq
    ·exact .inl e
    ·exact .inr ⟨hq,by simpa using (List.all_eq_true.mp hx) q hq⟩
   ·exact ba.here hx
  ·intro A σ Z s Q E hA S F hQ hE;refine hc u hu A σ Z s Q E hA S F (fun b s' σ' H' g' S' hk2=>hQ b s' σ' H' g' S' ?_) hE
   revert hk2;refine am fun q t=>?_;obtain rfl:=q;obtain rfl:=t
   exact⟨rfl,.inr ⟨u,rfl⟩,rfl,fun h=>hs u hu h⟩
 ·have:=hk ρ
  simpa using this
variable{kx:X→Hp→Prop}
noncomputable def fM(env:Env)(pos:Pos):List (Option PySem.Expr)→List PySem.Expr→List (Sem Value × Sem Value)
 | some a::ks,v::vs=>(eval a env,do let x←eval v env;standAt pos;pure x)::fM env pos ks vs
 | _,_=>[]
theorem nj{env:Env}{pos:Pos}:∀ (keys:List (Option PySem.Expr)) (values:List PySem.Expr),keys.all Option.isSome=true→keys.length=values.length→
  (evalEachOpt keys env).zip ((evalEach values env).map fun v=>do let x←v;standAt pos;pure x)=(fM env pos keys values).map fun p=>(some p.1,p.2)
 | [],[]=>fun J J=>rfl
 | some a::ks,v::vs=>fun h hl=>by
  have ih:=nj (env:=env) (pos:=pos) ks vs (by simpa using h) (Nat.succ.inj hl);show(some (eval a env),_)::(evalEachOpt ks env).zip ((evalEach vs env).map _)=_::(fM env pos ks vs).map _;rw[ih]
 | none::ks,_=>fun h J=>by simp at h
 | [],_::_=>fun J hl=>by exists hl
 | some _::_,[]=>fun J hl=>by exists hl
theorem iz{env:Env}{pos:Pos}:∀ (keys:List (Option PySem.Expr)) (values:List PySem.Expr),keys.all Option.isSome=true→keys.length=values.length→(fM env pos keys values).length=keys.length
 | [],[]=>fun J J=>rfl
 | some a::ks,v::vs=>fun h hl=>congrArg (· +1) (iz ks vs (by simpa using h) (Nat.succ.inj hl))
 | none::ks,_=>fun h J=>by simp at h
 | [],_::_=>fun J hl=>by exists hl
 | some _::_,[]=>fun J hl=>by exists hl
variable{t:Sem Value}
theorem vF(h:Ev prog w K d hd env ρ t H k kx):Ev prog w K d hd env ρ (do let x←t;standAt pos;pure x) H k kx:=by
 intro A σ Z s Q E hA S F hQ hE;exact wpAny_bind (h A σ Z s _ _ hA S F (fun v s' σ' x H' g' S' hx hk=>wpAny_bind (wpAny_standAt (wpAny_pure (hQ v s' σ' x H' g' S' hx hk)))) hE)
theorem gJ(hs:keys.all Option.isSome=true)(hl:keys.length=values.length)(h0:0 < keys.length)(hlen:keys.length≤15)(h:Ed prog w K d hd env ρ (evalPairs (fM env pos keys values)) (H++[.d [] []]) (fun ks us H'=>ks.Nodup∧ks.length≤1000∧H'[H.length]? =some (.d [] [])∧k (.ob H.length) (H'.set H.length (.d ks us))) kx):
  Ev prog w K d hd env ρ (eval (.Dict keys values pos) env) H k kx:=
 xJ (nj keys values hs hl) (fun e=>by have:=iz (env:=env) (pos:=pos) keys values hs hl;rw[e] at this;simp at this;omega) (by rw[iz keys values hs hl];exact hlen) h
variable{kf:List Str→List V→Hp→Prop}
theorem B6{kp:Pos}{v:PySem.Expr}{ks:List (Option PySem.Expr)}{vs:List PySem.Expr}(h:Ev prog w K d hd env ρ (eval v env) H (BW prog w K d hd env ρ (evalPairs (fM env pos ks vs)) x kf kx) kx):
  Ed prog w K d hd env ρ (evalPairs (fM env pos (some (.Constant (.str x) n kp)::ks) (v::vs))) H kf kx:=
 xz (fP ⟨x,rfl,vF h⟩)
theorem DQ(h:kf [] [] H):Ed prog w K d hd env ρ (evalPairs (fM env pos [] [])) H kf kx:=z7 h
theorem vD(hs:keys.all Option.isSome=true)(hl:keys.length=values.length)(h0:0 < keys.length)(hlen:keys.length≤15)(h:Ed prog w K d hd env ρ (evalPairs (fM env pos keys values)) (H++[.d [] []]) (fun ks us H'=>H'=H++[.d [] []]∧ks.Nodup∧ks.length≤1000∧k (.ob H.length) (H++[.d ks us])) kx):
  Ev prog w K d hd env ρ (eval (.Dict keys values pos) env) H k kx:=by
 refine gJ hs hl h0 hlen ?_;intro A σ Z s Q E hA S F hQ hE;refine h A σ Z s Q E hA S F (fun vs s' σ' ks us H' g' S' h1 h2 h3 hk=>hQ vs s' σ' ks us H' g' S' h1 h2 h3 ?_) hE
 revert hk;refine am fun q t=>?_;obtain rfl:=q;revert t;refine gT fun q1 q2 q3=>?_
 exact⟨q1,q2,by walk_at "s",by simpa using q3⟩
variable{ks:List V→Hp→Prop}
theorem vB(he:starEach (e::rest) env=(false,eval e env)::starEach rest env)(h:Ev prog w K d hd env ρ (eval e env) H (Ee prog w K d hd env ρ (spliced (backTo pos (starEach rest env))) ks kx) kx):Es prog w K d hd env ρ (spliced (backTo pos (starEach (e::rest) env))) H ks kx:=by
 rw[he];exact xA h
theorem xH(h:ks [] H):Es prog w K d hd env ρ (spliced (backTo pos (starEach [] env))) H ks kx:=z8 h
theorem nA(h:H[r]? =some (.l l)):zL H (.ob r)=true:=by unfold zL;simp only[h]
theorem zA{ks:List Str}(h:H[r]? =some (.d ks l)):zL H (.ob r)=true:=by unfold zL;simp only[h]
variable{kx:X→Hp→Prop}
theorem Ev.mono{k':V→Hp→Prop}{kx':X→Hp→Prop}(h:Ev prog w K d hd env ρ t H k kx)(hk:∀ v H,k v H→k' v H)(hx:∀ x H,kx x H→kx' x H:=by walk_at "i"):Ev prog w K d hd env ρ t H k' kx':=by
 intro A σ Z s Q E hA S F hQ hE;exact h A σ Z s Q E hA S F (fun v s' σ' x H' g' S' hx h'=>hQ v s' σ' x H' g' S' hx (hk _ _ h')) (fun e s' σ' x H' g' S' hx' h'=>hE e s' σ' x H' g' S' hx' (hx _ _ h'))
variable{t:Sem Flow}{ks:Fl→ai→Hp→Prop}
theorem Ex.weaken{ks':Fl→ai→Hp→Prop}{kxs kxs':X→ai→Hp→Prop}(h:Ex prog w K d hd env ρ t H ks kxs)(hk:∀ fl ρ H,ks fl ρ H→ks' fl ρ H:=by walk_at "i")(hx:∀ x ρ H,kxs x ρ H→kxs' x ρ H:=by walk_at "e3"):Ex prog w K d hd env ρ t H ks' kxs':=by
 intro A σ Z s Q E hA S F hQ hE;exact h A σ Z s Q E hA S F (fun f s' σ' fl ρ' H' g' S' F' hf h'=>hQ f s' σ' fl ρ' H' g' S' F' hf (hk _ _ _ h')) (fun e s' σ' x ρ' H' g' S' F' hx' h'=>hE e s' σ' x ρ' H' g' S' F' hx' (hx _ _ _ h'))
variable{b:Int}
theorem uQ{a:Int}(hb:b.natAbs < 2 ^ 300):Builtin.divisionGoesByPylong a b=false:=by
 unfold Builtin.divisionGoesByPylong;dsimp only
 have h:¬ (if (b==0)=true then 0 else b.natAbs.log2 / 30+1) > 300:=by
  split
  ·omega
  ·have:b.natAbs.log2 < 300:=by
    by_cases h0:b.natAbs=0
    ·rw[h0];decide
    ·exact(Nat.log2_lt h0).mpr hb
   omega
 rw[decide_eq_false h];rfl
variable{a c:Nat}
theorem sZ(hb:b=(c:Int))(hc:0 < c)(hs:c < 2 ^ 300)(h:k (.int ((a / c:Nat):Int)) H):Pr prog w K d hd [.int (a:Int),.int b] (qE .FloorDiv) H k kx:=by
 subst hb;refine Bb (by omega) (uQ (by simpa using hs)) ?_;rw[Int.fdiv_eq_ediv_of_nonneg _ (by omega)];exact h
theorem lc(hb:b=(c:Int))(hc:0 < c)(h:k (.int ((a % c:Nat):Int)) H):Pr prog w K d hd [.int (a:Int),.int b] (qE .Mod) H k kx:=by
 subst hb;refine ry (by omega) ?_;rw[Int.fmod_eq_emod_of_nonneg _ (by omega)];exact h
theorem yI(hb:b=(c:Int))(h:k (.int ((a+c:Nat):Int)) H):Pr prog w K d hd [.int (a:Int),.int b] (qE .Add) H k kx:=by
 subst hb;exact jZ (by rw[←Int.natCast_add];exact h)
theorem wJ(hb:b=(c:Int))(h:k (.bool (decide (a=c))) H):Pr prog w K d hd [.int (a:Int),.int b] (kL .Eq) H k kx:=by
 subst hb;refine wK ?_;have e:((a:Int)==(c:Int))=decide (a=c):=by rw[Bool.eq_iff_iff];simp;omega
 rw[e];exact h
theorem ET(hb:b=(c:Int))(h:k (.bool (decide (a > c))) H):Pr prog w K d hd [.int (a:Int),.int b] (kL .Gt) H k kx:=by
 subst hb;refine DG ?_;have e:decide ((a:Int) > (c:Int))=decide (a > c):=by rw[Bool.eq_iff_iff,decide_eq_true_iff,decide_eq_true_iff];omega
 rw[e];exact h
theorem Be(hu:l[i]? =some u)(hl:l.length≤1000)(h:k u H):Pr prog w K d hd [.lst l,.int (i:Int)] gI H k kx:=
 nK (by omega) (by simpa using hu) hl h
theorem wR(hr:H[r]? =some (.l l))(hu:l[i]? =some u)(hl:l.length≤1000)(h:k u H):Pr prog w K d hd [.ob r,.int (i:Int)] gI H k kx:=
 qa hr (by omega) (by simpa using hu) hl h
theorem yK(hu:l[i]? =some u)(hl:l.length≤1000)(h:k u H):Pr prog w K d hd [.tup l,.int (i:Int)] gI H k kx:=
 uE (by omega) (by simpa using hu) hl h
inductive DO (H:Hp) (l:List V):V→Prop
 | l:DO H l (.lst l)
 | t:DO H l (.tup l)
 | o (r:Nat):H[r]? =some (.l l)→DO H l (.ob r)
inductive B5 (k:V→Hp→Prop) (u x:V) (H:Hp):Prop
 | mk (l:List V) (i:Nat) (v:V):DO H l u→x=.int ((i:Nat):Int)→l[i]? =some v→l.length≤1000→k v H→B5 k u x H
theorem DV(hs:∀ o i,subscripted slice false o i=operate [o,i] (getItem o i)∨subscripted slice false o i=operate [i,o] (getItem o i))(h:Ev prog w K d hd env ρ (eval value env) H (BV prog w K d hd env ρ (eval slice env) (B5 k) kx) kx):
  Ev prog w K d hd env ρ (eval (.Subscript value slice pos) env) H k kx:=by
 refine Ad hs (h.mono fun u H1 hk0=>hk0.mono fun x H2 hk1=>?_);obtain⟨l,i,v,hu,q,hv,hl,hk⟩:=hk1;obtain rfl:=q;cases hu with
 | l=>exact⟨rfl,Be hv hl hk⟩
 | t=>exact⟨rfl,yK hv hl hk⟩
 | o r hr=>exact⟨nA hr,wR hr hv hl hk⟩
theorem vy(h:Eb prog w K d hd env ρ (allTrue .Or es env) H kb kx):Eb prog w K d hd env ρ (isTrue (.BoolOp .Or es pos) env whole) H kb kx:=vw h
variable{kxs:X→ai→Hp→Prop}
theorem FR.sub(F:FR P σ Z env ρ h)(hs:∀ p∈ρ',p∈ρ):FR P σ Z env ρ' h:=
 ⟨F.kind,F.glob,F.blt,(let ⟨m,hm,q⟩:=F.ns;⟨m,hm,fun x u e1 e2=>q x u (hs _ e1) e2⟩),fun x u e1 e2=>F.cell x u (hs _ e1) e2,fun x u e1=>F.all x u (hs _ e1),F.locZ,F.celZ,F.one,F.cex,fun x u e1=>F.plain x u (hs _ e1),F.celD⟩
theorem Ag(h:Ex prog w K d hd env ρ t H (fun fl ρ2 H2=>∃ ρ3,(∀ p∈ρ3,p∈ρ2)∧ks fl ρ3 H2) kxs):Ex prog w K d hd env ρ t H ks kxs:=by
 intro A σ Z s Q E hA S F hQ hE;refine h A σ Z s Q E hA S F (fun f s' σ' fl ρ' H' g' S' F' hf hk=>?_) hE
 revert hk;refine ab fun ρ3 hs hk=>?_
 exact hQ f s' σ' fl ρ3 H' g' S' (F'.sub hs) hf hk
theorem fB(hs:∀ p∈ρ',p∈ρ)(h:Ex prog w K d hd env ρ' t H ks kxs):Ex prog w K d hd env ρ t H ks kxs:=by
 intro A σ Z s Q E hA S F hQ hE;exact h A σ Z s Q E hA S (F.sub hs) hQ hE
inductive E8 (R:Nat→ai→Hp→Prop) (i:Nat) (ρ:ai) (H:Hp):Prop
 | mk (ρ3:ai):(∀ p∈ρ3,p∈ρ)→R (i+1) ρ3 H→E8 R i ρ H
theorem bG(R:Nat→ai→Hp→Prop)(hs:∀ (i:Nat) (u:V) (ρ:ai) (H:Hp),l[i]? =some u→R i ρ H→As prog w K d hd env (own env) ρ (assign tg env) u H (tB prog w K d hd env body (tK (E8 R i) ks)) (fun J J J=>False))(h0:R 0 ρ H)(hk:∀ ρ' H',R l.length ρ' H'→ks .next ρ' H'):ge prog w K d hd env tg body ks l ρ H:=by
 have main:∀ (n i:Nat) (ρ:ai) (H:Hp),n+i=l.length→R i ρ H→ge prog w K d hd env tg body ks (l.drop i) ρ H:=by
  intro n
  induction n with
  | zero=>
   intro i ρ H e hR;have e':i=l.length:=by omega
   subst e';rw[List.drop_length];rw[ge];exact hk ρ H hR
  | succ n ih=>
   intro i ρ H e hR;have hlt:i < l.length:=by omega
   rw[List.drop_eq_getElem_cons hlt];rw[ge];intro A σ Z s v Q E hA S F hv hQ hE;refine hs i l[i] ρ H (List.getElem?_eq_getElem hlt) hR A σ Z s v Q E hA S F hv (fun s' σ' ρ1 H1 g' S' F' hk1=>hQ s' σ' ρ1 H1 g' S' F' ?_) hE;refine Ag (Ex.weaken hk1 (fun fl ρ2 H2 h2=>?_));cases fl with
   | next=>obtain⟨ρ3,q,hR3⟩:=h2;exact⟨ρ3,q,ih (i+1) ρ3 H2 (by omega) hR3⟩
   | cont=>obtain⟨ρ3,q,hR3⟩:=h2;exact⟨ρ3,q,ih (i+1) ρ3 H2 (by omega) hR3⟩
   | brk=>exact⟨ρ2,fun J q=>q,h2⟩
   | ret u=>exact⟨ρ2,fun J q=>q,h2⟩
 have:=main l.length 0 ρ H (by omega) h0
 rwa [List.drop_zero] at this
variable{kE:Option Int→Hp→Prop}
theorem DR{kx:X→Hp→Prop}(h:kE none H):Ep prog w K d hd env ρ none H kE kx:=by
 unfold Ep;exact h
theorem DS{kx:X→Hp→Prop}(h:Ev prog w K d hd env ρ (eval e env) H (z0 kE) kx):Ep prog w K d hd env ρ (some e) H kE kx:=by
 unfold Ep;exact h
theorem jY(x:Str)(lo hi:Option Int):(kt x lo hi).length≤x.length:=by
 rw[kt];split
 ·exact Nat.le_refl _
 ·show(((Builtin.Str.strSliceIndices lo hi 1 x.length).filterMap (x.cps[·]?)).toArray).size≤_;rw[List.size_toArray];exact Nat.le_trans (List.length_filterMap_le _ _) (sliceIndices_le lo hi x.length)
theorem aR(hs:swapsWith e none pos.line env=pure false)(h:Ev prog w K d hd env ρ (eval e env) H (Fd ρ ks) (nc ρ kxs)):
  Ex prog w K d hd env ρ (exec (.Expr e pos) env) H ks kxs:=by
 intro A σ Z s Q E hA S F hQ hE;have hi:interactive env=false:=by unfold interactive;rw[F.kind];rfl
 exact xL hi hs h A σ Z s Q E hA S F hQ hE
theorem pv{α:Type}(l:List α)(a:Nat):∀ m,(List.range m).filterMap (fun k=>l[a+k]?)=(l.drop a).take m
 | 0=>rfl
 | m+1=>by
  rw[List.range_succ,List.filterMap_append,pv l a m,List.take_succ,List.getElem?_drop];congr 1
theorem dX(l:List V)(lo hi:Option Int):cr l lo hi none=(l.drop (lo.elim 0 (clipAt l.length))).take (hi.elim l.length (clipAt l.length) - lo.elim 0 (clipAt l.length)):=by
 rw[cr];rw[sliceBounds_plain];dsimp only;rw[sliceRange_one,List.filterMap_map];exact pv l _ _
theorem pf(h:n≤m):clipAt m (n:Int)=n:=by
 unfold clipAt;rw[if_neg (Int.not_lt.mpr (Int.natCast_nonneg n)),Int.min_eq_left (Int.ofNat_le.mpr h),Int.max_eq_right (Int.natCast_nonneg n)];rfl
theorem rm(l:List V)(h:n≤l.length):cr l (some (n:Int)) none none=l.drop n:=by
 rw[dX];have e:=pf h;simp only[Option.elim_some,Option.elim_none,e];rw[List.take_of_length_le (by rw[List.length_drop];omega)]
theorem wE(l:List V)(h:n≤l.length):cr l none (some (n:Int)) none=l.take n:=by
 rw[dX];have e:=pf h;simp only[Option.elim_some,Option.elim_none,e,List.drop_zero,Nat.sub_zero]
theorem yG(l:List V)(h:1≤l.length):cr l (some 1) none none=l.drop 1:=rm l (n:=1) h
variable{kxs:X→ai→Hp→Prop}
theorem pJ{a:Option NameKind}(h:a=some .local):(a==some .local)=true:=by rw[h];rfl
variable{r:List Str}{A:Sem (Option (List Str))}
theorem te{ns:List Str}{b4 b5:Bool}{B C D E:Sem (Option (List Str))}(h1:b1=false)(h2:b2=false)(hn:ns=r)(h3:(r.length != m || r.eraseDups.length != r.length)=false)(h4:b4=false)(h5:b5=false):
  (if b1=true then A else if b2=true then B else if (ns.length != m || ns.eraseDups.length != ns.length)=true then C else if b4=true then D else if b5=true then E else pure (some ns))=pure (some r):=by
 subst hn h1 h2 h4 h5;rw[h3];rfl
theorem yQ{b3:Bool}{X:Sem (Option (List Str))}(h:b3=true):(if b1=true then A else if b2=true then A else if b3=true then A else X)=A:=by subst h;cases b1 <;> cases b2 <;> rfl
variable{f:PySem.Expr→Option Str}{a:PySem.Expr}
theorem vO{l:List PySem.Expr}{b:Str}(h:f a=some b)(t:l.filterMap f=r):(a::l).filterMap f=b::r:=(List.filterMap_cons_some h).trans (congrArg _ t)
variable{b:PySem.Expr}
theorem Ej{Y:Bool}(h:f b=none):(([a,b].filterMap f).length != 2 || Y)=true:=by
 unfold List.filterMap;rw[List.filterMap_cons_none h];cases f a <;> rfl
theorem BT{b:ScopeKind}(h:b=.function):(b != .function)=false:=by rw[h];rfl
variable{x1 x2:Str}{vpos:Pos}{kk':Nat}{v1 v2:PySem.Expr}
theorem vJ(hn:hd.h=true)(hsc:Sc env sc (own env)){x3:Str}{v3:PySem.Expr}(hl:sc.names.lookup x1=some .local∧sc.names.lookup x2=some .local∧sc.names.lookup x3=some .local)(hok:[x1,x2,x3].all (aG sc)=true)(hsw:env.blockKind=.function→env.kindOf x1=some .local→env.kindOf x2=some .local→env.kindOf x3=some .local→swappedStores [.Tuple [.Name x1 p1,.Name x2 p2,.Name x3 p3] kk tpos] (.Tuple [v1,v2,v3] kk' vpos) env=pure (some [x1,x2,x3]))(h:Ev prog w K d hd env ρ (eval (.Tuple [v1,v2,v3] kk' vpos) env) H (fun u H'=>∃ u1 u2 u3 ρ',u=.tup [u1,u2,u3]∧iP [x3,x2,x1] [u3,u2,u1] ρ ρ'∧ks .next ρ' H') (nc ρ kxs)):
  Ex prog w K d hd env ρ (exec (.Assign [.Tuple [.Name x1 p1,.Name x2 p2,.Name x3 p3] kk tpos] (.Tuple [v1,v2,v3] kk' vpos) pos) env) H ks kxs:=by
 intro A σ Z s Q E hA S F hQ hE;have hb:env.blockKind=.function:=by unfold Env.blockKind;rw[F.kind];rfl
 refine sj hn hsc rfl (hsw hb (hsc.loc _ hl.1) (hsc.loc _ hl.2.1) (hsc.loc _ hl.2.2)) hok (h.mono fun u H' hk=>?_) A σ Z s Q E hA S F hQ hE
 revert hk;refine DD fun u1 u2 u3 ρ' q t=>?_;obtain rfl:=q;revert t;refine am fun hp hk=>?_
 exact⟨[u1,u2,u3],ρ',rfl,rfl,hp,hk⟩
theorem vI(hn:hd.h=true)(hsc:Sc env sc (own env))(hl:sc.names.lookup x1=some .local∧sc.names.lookup x2=some .local)(hok:[x1,x2].all (aG sc)=true)(hsw:env.blockKind=.function→env.kindOf x1=some .local→env.kindOf x2=some .local→swappedStores [.Tuple [.Name x1 p1,.Name x2 p2] kk tpos] (.Tuple [v1,v2] kk' vpos) env=pure (some [x1,x2]))(h:Ev prog w K d hd env ρ (eval (.Tuple [v1,v2] kk' vpos) env) H (fun u H'=>∃ u1 u2 ρ',u=.tup [u1,u2]∧iP [x2,x1] [u2,u1] ρ ρ'∧ks .next ρ' H') (nc ρ kxs)):
  Ex prog w K d hd env ρ (exec (.Assign [.Tuple [.Name x1 p1,.Name x2 p2] kk tpos] (.Tuple [v1,v2] kk' vpos) pos) env) H ks kxs:=by
 intro A σ Z s Q E hA S F hQ hE;have hb:env.blockKind=.function:=by unfold Env.blockKind;rw[F.kind];rfl
 refine sj hn hsc rfl (hsw hb (hsc.loc _ hl.1) (hsc.loc _ hl.2)) hok (h.mono fun u H' hk=>?_) A σ Z s Q E hA S F hQ hE
 revert hk;refine uw fun u1 u2 ρ' q t=>?_;obtain rfl:=q;revert t;refine am fun hp hk=>?_
 exact⟨[u1,u2],ρ',rfl,rfl,hp,hk⟩
theorem AG{id:String}(slot:Slot "list" name id)(ty:typeOf (.builtin id)=pure (.type "method_descriptor")):Gm K w.params (.lst l) name id H:=by
 intro M A σ Z s v pl Q E S hv hQ;obtain⟨a,vs,rfl,f,⟨n,ho⟩,_⟩:=hv;exact getMethod_builtin (T:="list") ⟨_,ho,rfl⟩ F.plainAttrs_list slot ty (fun b e=>by exists e;exact⟨_,ho,rfl⟩) hQ
theorem uD{kx:X→Hp→Prop}{l:List Nat}{x:Nat}(hx:x∈l)(hl:l.length≤1000)(h:k (.int ((l.idxOf x:Nat):Int)) H):Pr prog w K d hd [.lst (l.map fun n:Nat=>V.int (n:Int)),.int (x:Int)] (fun vs=>call (.builtin "list.index") vs) H k kx:=by
 have e:(l.map fun n:Nat=>V.int (n:Int))=(l.map fun n:Nat=>(n:Int)).map V.int:=by rw[List.map_map];rfl
 rw[e];have hlt:l.idxOf x < l.length:=List.idxOf_lt_length_of_mem hx;refine wP (j:=l.idxOf x) ?_ ?_ (by simpa using hl) h
 ·rw[List.getElem?_map,List.getElem?_eq_getElem hlt,List.getElem_idxOf];rfl
 ·intro m hm;rw[List.getElem?_map,List.getElem?_eq_getElem (Nat.lt_trans hm hlt)];intro q;have q':((l[m]'(Nat.lt_trans hm hlt):Nat):Int)=(x:Int):=Option.some.inj q;have q2:l[m]'(Nat.lt_trans hm hlt)=x:=by omega
  have:=List.not_of_lt_findIdx (p:=(· ==x)) (xs:=l) hm;simp[q2] at this
variable{kxs:X→ai→Hp→Prop}{kx:X→Hp→Prop}
theorem qR{t1 t2 t3:PySem.Expr}(hs:swapsWithSole [t1,t2,t3] e pos.line env=pure false)(hw:swappedStores [t1,t2,t3] e env=pure none)(ht:assignEach [t1,t2,t3] env=[(false,assign t1 env),(false,assign t2 env),(false,assign t3 env)])(h:Ev prog w K d hd env ρ (eval e env) H (fun u H'=>As prog w K d hd env (own env) ρ (assign t1 env) u H' (fun ρ1 H1=>As prog w K d hd env (own env) ρ1 (assign t2 env) u H1 (fun ρ2 H2=>As prog w K d hd env (own env) ρ2 (assign t3 env) u H2 (fun ρ' H''=>ks .next ρ' H'') (fun J J J=>False)) (fun J J J=>False)) (fun J J J=>False)) (nc ρ kxs)):
  Ex prog w K d hd env ρ (exec (.Assign [t1,t2,t3] e pos) env) H ks kxs:=by
 intro A σ Z s Q E hA S F hQ hE;refine wpAny_Assign_stores (h A σ Z s _ _ hA S F (fun v s1 σ1 u H1 g1 S1 hu hk=>?_) (hE.to S F)) hs hw;rw[ht];have F1:=F.go S g1;show wpAny _ A (holding [v] (assign t1 env v) >>= fun J=>(holding [v] (assign t2 env v) >>= fun J=>assign t3 env v)) _ E s1;refine wpAny_bind (wpAny_holding (hk A σ1 Z s1 v _ _ hA S1 F1 hu (fun s2 σ2 ρ2 H2 g2 S2 F2 hk2=>?_) (fun J J J J J J J J J J q=>q.elim)));have hu2:=VR.go g2 (fun a h=>F1.ownZ a h) _ hu;refine wpAny_bind (wpAny_holding (hk2 A σ2 Z s2 v _ _ hA S2 F2 hu2 (fun s3 σ3 ρ3 H3 g3 S3 F3 hk3=>?_) (fun J J J J J J J J J J q=>q.elim)));have hu3:=VR.go g3 (fun a h=>F2.ownZ a h) _ hu2;exact hk3 A σ3 Z s3 v _ _ hA S3 F3 hu3 (fun s4 σ4 ρ4 H4 g4 S4 F4 hk4=>hQ _ s4 σ4 .next ρ4 H4 (g1.ev ((g2.seq g3).seq g4)) S4 F4 rfl hk4) (fun J J J J J J J J J J q=>q.elim)
theorem wy:typeLookup (.type "object") (Str.ofString "raw")=pure none:=by rw[typeLookup_type,builtinLookup_eq_fast];kernel_rfl
theorem A7:typeLookup (.type "object") (Str.ofString "n")=pure none:=by rw[typeLookup_type,builtinLookup_eq_fast];kernel_rfl
theorem sS:typeLookup (.type "object") (Str.ofString "nt")=pure none:=by rw[typeLookup_type,builtinLookup_eq_fast];kernel_rfl
theorem oO:typeLookup (.type "object") (Str.ofString "norm")=pure none:=by rw[typeLookup_type,builtinLookup_eq_fast];kernel_rfl
theorem fX:typeLookup (.type "object") (Str.ofString "is_simple")=pure none:=by rw[typeLookup_type,builtinLookup_eq_fast];kernel_rfl
theorem iG:typeLookup (.type "object") (Str.ofString "_headers")=pure none:=by rw[typeLookup_type,builtinLookup_eq_fast];kernel_rfl
variable{r:Nat}{kl:List Str}{name:String}
theorem qA(ok:bI K)(hr:H[r]? =some (.n kl l))(hm:name∈["raw","n","nt","norm","is_simple"])(hB:typeLookup (.type "object") (Str.ofString name)=pure none)(hu:(kl.zip l).lookup (Str.ofString name)=some u)(hb:gk u=true)(h:k u H):Pr prog w K d hd [.ins 158 r] (gA (Str.ofString name)) H k kx:=
 kB ok.ws hr (ok.wsNo "__getattribute__" ∅) (ok.wsNo name (.tail _ (.tail _ (.tail _ hm)))) hB hu hb h
theorem qz(ok:bI K)(hm:name∈["raw","n","nt","norm","is_simple"])(hB:typeLookup (.type "object") (Str.ofString name)=pure none)(hu:(kl.zip l).lookup (Str.ofString name)=some u)(hb:gk u=true)(h:k u H):Pr prog w K d hd [.fin 158 kl l] (gA (Str.ofString name)) H k kx:=
 kA ok.ws (ok.wsNo "__getattribute__" ∅) (ok.wsNo name (.tail _ (.tail _ (.tail _ hm)))) hB hu hb h
theorem mN(ok:bI K)(hr:H[r]? =some (.n kl l))(hm:name∈["raw","n","nt","norm","is_simple"])(hB:typeLookup (.type "object") (Str.ofString name)=pure none)(hl:kl.length≤1000)(h:k .none (H.set r (.n (Str.ofString name::kl) (u::l)))):Pr prog w K d hd [.ins 158 r,u] (sA (Str.ofString name)) H k kx:=
 mo ok.ws hr (ok.wsNo "__setattr__" ∅) (ok.wsNo name (.tail _ (.tail _ (.tail _ hm)))) hB hl (by decide) h
variable{kx:X→Hp→Prop}
theorem bp{a:Addr}{ns:List Str}(f:gZ K a body sc ns)(hl:xs.length=ns.length)(hρ:ns.zip xs=ρ0)(h:∀ env:Env,Sc env sc (own env)→Ex prog w K d ⟨hd.h,some env⟩ env ρ0 (execs body env) H (z3 k) (vf kx)):
  Pr prog w K (d+1) hd xs (fun vs=>call (.ref a) vs) H k kx:=by
 subst hρ;exact vS f hl h
theorem mm(hl:l.length≤1000)(h:k (.int l.length) H):Pr prog w K d hd [.tup l] (fun vs=>call (.builtin "len") vs) H k kx:=by
 refine bu fun A σ Z s u Q E hA S hu hQ hE=>?_;obtain⟨a,vs,rfl,f,hi,hvs⟩:=hu;have e:=hvs.length;have e':vs.toList.length=vs.size:=by walk_at "s"
 refine PyProof.Rows.len_tuple hi (by omega) ?_;rw[←e',←e];exact hQ _ _ σ (.int l.length) H (Go.tok ..) (S.tok _) VR.int h
theorem lS(h:n < 2 ^ 64):Builtin.Int.intBits (n:Int)≤64:=by
 unfold Builtin.Int.intBits;split
 ·omega
 ·have:n.log2 < 64:=by
   by_cases h0:n=0
   ·rw[h0];decide
   ·exact(Nat.log2_lt h0).mpr h
  rw[Int.natAbs_natCast];omega
variable{a:Nat}
theorem oS(ha:a < 2 ^ 64)(h:k (.int ((a * c:Nat):Int)) H):Pr prog w K d hd [.int (a:Int),.int (c:Int)] (qE .Mult) H k kx:=
 oR (IntMulOk.of_left (lS ha)) (by rw[←Int.natCast_mul];exact h)
theorem mi(h:k (.int ((a+c:Nat):Int)) H):Pr prog w K d hd [.int (a:Int),.int (c:Int)] (qE .Add) H k kx:=yI rfl h
theorem wM(h:k (.bool (decide (a≥c))) H):Pr prog w K d hd [.int (a:Int),.int (c:Int)] (kL .GtE) H k kx:=
 DF (by rw[show decide ((a:Int)≥(c:Int))=decide (a≥c) from by rw[decide_eq_decide];omega];exact h)
theorem wS(h:k (.bool (decide (a≤c))) H):Pr prog w K d hd [.int (a:Int),.int (c:Int)] (kL .LtE) H k kx:=
 zE (by rw[show decide ((a:Int)≤(c:Int))=decide (a≤c) from by rw[decide_eq_decide];omega];exact h)
theorem vx(h:Eb prog w K d hd env ρ (allTrue .And es env) H kb kx):Eb prog w K d hd env ρ (isTrue (.BoolOp .And es pos) env whole) H kb kx:=vw h
variable{kk:List Str}{fa:Nat}
theorem nX(ok:bI K)(hm:(name,fa)∈[("__init__",113),("longest_run_of_spaces",120),("indent_level",127),("less",148)])(hf:∃ o,K.lookup fa=some o∧o.cls=.type "function")(hB:typeLookup (.type "object") (Str.ofString name)=pure y)(hsh:Str.ofString name∉kk):Gi prog w K (.fin 158 kk l) (Str.ofString name) (.ref fa) H:=by
 revert hf;refine ab fun o h1 h2=>?_
 exact vU ok.ws (ok.wsNo "__getattribute__" ∅) (ok.wsNo "__getattr__" ∅) (ok.wsM _ hm) h1 h2 hB hsh
theorem rl:∃ y,typeLookup (.type "object") (Str.ofString "longest_run_of_spaces")=pure y:=⟨none,by rw[typeLookup_type,builtinLookup_eq_fast];kernel_rfl⟩
theorem nF:∃ y,typeLookup (.type "object") (Str.ofString "indent_level")=pure y:=⟨none,by rw[typeLookup_type,builtinLookup_eq_fast];kernel_rfl⟩
theorem yu:∃ y,typeLookup (.type "object") (Str.ofString "less")=pure y:=⟨none,by rw[typeLookup_type,builtinLookup_eq_fast];kernel_rfl⟩
theorem gV:Slot "re.Pattern" (Str.ofString "search") "re.Pattern.search":=
 .of (owner:="re.Pattern") (n:="search") (by rw[typeLookup_type,builtinLookup_eq_fast];kernel_rfl) ∅ ∅ ∅
  (by first | exact .inl ∅ | exact .inr ∅) (by rw[isSubtype_type];kernel_rfl)
theorem qt:typeOf (.builtin "re.Pattern.search")=pure (.type "method_descriptor"):=by show builtinType _=_;rw[builtinType_eq_fast];kernel_rfl
theorem oq:entryFor table "re.Pattern.search"=some Builtin.«re.Pattern.search»:=entryFor_of_tree ⋯
theorem ux:PlainAttrs "re.Pattern":=
 ⟨⟨"object.__getattribute__",by rw[typeLookup_type,builtinLookup_eq_fast];kernel_rfl,by walk_at "k"⟩,by rw[typeLookup_type,builtinLookup_eq_fast];kernel_rfl⟩
theorem uu:Manifest.owners.lookup (String.ofList ['n','r','e','t','t','a','P','.','e','r'].reverse)=some Manifest.sig_re_Pattern:=by kernel_rfl
theorem pb(a b:Value):argsOk "re.Pattern.search" ⟨[a,b],[]⟩:=by
 unfold argsOk;rw[signature?_of (id:="re.Pattern.search") (n:=['h','c','r','a','e','s']) (o:=['n','r','e','t','t','a','P','.','e','r']) ⋯ uu];kernel_rfl
open PySem.Sre in
structure SC (C:Array Nat) (hb w:Nat) (bad:Nat→Bool):Prop where
 hdr:header C=(1,hb)
 hb0:(hb != 0)=true
 inf:ops[C.getD 0 0]? =some .INFO
 fl:C.getD 2 0=4
 a:∀ c seen,∃ s',inSet C c C.size 5 true seen=.ok (bad c,s')
 b:∀ c seen,∃ s',inSet C c C.size (hb+2) true seen=.ok (bad c,s')
 op:ops[C.getD hb 0]? =some .IN
 wd:1+C.getD (hb+1) 0=w
 ok:ops[C.getD (hb+w) 0]? =some .SUCCESS
 s1:hb < C.size
 s2:hb+w < C.size
open PySem.Sre in
theorem j9 {m:M} {hb w:Nat} {bad:Nat→Bool} (F:SC m.code hb w bad):∀ (fuel s:Nat) (seen:Sre.Seen),m.lim < fuel+s→
  (∃ seen',M.admitted m fuel s seen=.ok (none,seen')∧∀ i,s≤i→i < m.lim→bad (m.text.getD i 0)=false)∨
  (∃ j seen',M.admitted m fuel s seen=.ok (some j,seen')∧j < m.lim∧bad (m.text.getD j 0)=true)
 | 0=>fun s seen h=>.inl ⟨seen,by unfold M.admitted;rfl,fun i h1 h2=>by omega⟩
 | fuel+1=>fun s seen h=>by
  unfold M.admitted
  by_cases hs:s≥m.lim
  ·rw[if_pos hs];exact .inl ⟨seen,rfl,fun i h1 h2=>by omega⟩
  ·rw[if_neg hs];obtain⟨s',e⟩:=F.a (m.text.getD s 0) seen;rw[e];cases hb:bad (m.text.getD s 0) with
   | true=>exact .inr ⟨s,s',rfl,by omega,hb⟩
   | false=>
    rcases j9 F fuel (s+1) s' (by omega) with ⟨s2,e2,q⟩ | ⟨j,s2,e2,q1,q2⟩
    ·refine .inl ⟨s2,e2,fun i h1 h2=>?_⟩;rcases Nat.lt_or_eq_of_le h1 with h1 | h1
     ·exact q i h1 h2
     ·exact h1▸hb
    ·exact .inr ⟨j,s2,e2,q1,q2⟩
noncomputable def xd(C t:Array Nat)(lim:Nat)(h:Nat × Nat):Sre.M:=
 {code:=C,text:=t,lim:=lim,start:=0,pc:=h.2,pos:=0,handed:=0,marks:=Array.replicate (2 * 0) none,mustAdvance:=false,seen:=if (h.2==0)=true then {} else ({}:Sre.Seen).add 14}
noncomputable def fr(C t:Array Nat)(hb lim:Nat):Sre.M:={xd C t lim (1,hb) with lastStart:=lim}
noncomputable def jH(C t:Array Nat)(hb lim j pc:Nat)(sn:Sre.Seen):Sre.M:=
 {code:=C,text:=t,lim:=lim,start:=j,lastStart:=lim,pc:=pc,pos:=j,handed:=j,marks:= #[],mustAdvance:=false,seen:=sn,
  frames:=[{wait:=.nextStart,pc:=hb,pos:=j,outermost:=true}],weight:=1}
open PySem.Sre in
theorem DJ {C:Array Nat} {hb w:Nat} {bad:Nat→Bool} (F:SC C hb w bad) (t:Array Nat) (lim j:Nat) (sn:Sre.Seen) (q1:j < lim) (q2:bad (t.getD j 0)=true):
  ∃ sn',(jH C t hb lim j hb sn).step={jH C t hb lim j (hb+w) sn' with pos:=j+1}:=by
 obtain⟨s',e⟩:=F.b (t.getD j 0) (sn.add (C.getD (hb+0) 0));refine⟨s',?_⟩;unfold M.step;rw[if_neg (by simp[jH])];show(if hb < C.size then (jH C t hb lim j hb sn).exec else _)=_;rw[if_pos F.s1];unfold M.exec;rw[show ops[(jH C t hb lim j hb sn).word 0]? =some .IN from F.op];dsimp only;rw[if_neg (show ¬ ((jH C t hb lim j hb sn).pos≥(jH C t hb lim j hb sn).lim) from by show ¬ (j≥lim);omega)]
 have ea:accepts (jH C t hb lim j hb sn).code (jH C t hb lim j hb sn).pc ((jH C t hb lim j hb sn).text.getD (jH C t hb lim j hb sn).pos 0) ((jH C t hb lim j hb sn).seen.add ((jH C t hb lim j hb sn).word 0))=.ok (true,s'):=by
  unfold accepts;rw[show ops[(jH C t hb lim j hb sn).code.getD (jH C t hb lim j hb sn).pc 0]? =some .IN from F.op];show inSet C (t.getD j 0) C.size (hb+2) true (sn.add (C.getD (hb+0) 0))=_;rw[e,q2]
 have ew:itemWidth (jH C t hb lim j hb sn).code (jH C t hb lim j hb sn).pc=w:=by
  unfold itemWidth;rw[show ops[(jH C t hb lim j hb sn).code.getD (jH C t hb lim j hb sn).pc 0]? =some .IN from F.op];exact F.wd
 rw[ea];dsimp only;rw[ew];rfl
open PySem.Sre in
theorem DK {C:Array Nat} {hb w:Nat} {bad:Nat→Bool} (F:SC C hb w bad) (t:Array Nat) (lim j:Nat) (sn:Sre.Seen):
  ∃ sn',({jH C t hb lim j (hb+w) sn with pos:=j+1}:M).step={jH C t hb lim j (hb+w) sn' with pos:=j+1,handed:=j+1,answer:=some true}:=by
 refine⟨sn.add (C.getD (hb+w+0) 0),?_⟩;unfold M.step;rw[if_neg (by simp[jH])];show(if hb+w < C.size then ({jH C t hb lim j (hb+w) sn with pos:=j+1}:M).exec else _)=_;rw[if_pos F.s2];unfold M.exec;rw[show ops[({jH C t hb lim j (hb+w) sn with pos:=j+1}:M).word 0]? =some .SUCCESS from F.ok];rfl
open PySem.Sre in
theorem Bk {C:Array Nat} {hb w:Nat} {bad:Nat→Bool} (F:SC C hb w bad) (t:Array Nat) (lim j:Nat) (s2:Sre.Seen) (q1:j < lim) (q2:bad (t.getD j 0)=true):
  (M.runFor 4 (({fr C t hb lim with mustAdvance:=false,seen:=s2}:M).attemptAt j true)).outcome=some .matched:=by
 have e1:({fr C t hb lim with mustAdvance:=false,seen:=s2}:M).attemptAt j true=jH C t hb lim j hb s2:=rfl;rw[e1];obtain⟨a1,h1⟩:=DJ F t lim j s2 q1 q2;obtain⟨a2,h2⟩:=DK F t lim j a1;show(M.runFor 3 (jH C t hb lim j hb s2).step).outcome=_;rw[h1];show(M.runFor 2 ({jH C t hb lim j (hb+w) a1 with pos:=j+1}:M).step).outcome=_;rw[h2];rfl
open PySem.Sre in
theorem rG {C:Array Nat} {hb w:Nat} {bad:Nat→Bool} (F:SC C hb w bad) (t:Array Nat) (lim:Nat):
  ((∃ m,(forSearch C t 0 0 lim false).runFor 4=m∧m.outcome=some .failed)∧∀ i,i < lim→bad (t.getD i 0)=false)∨
  ((∃ m,(forSearch C t 0 0 lim false).runFor 4=m∧m.outcome=some .matched)∧∃ i,i < lim∧bad (t.getD i 0)=true):=by
 have e00:forSearch C t 0 0 lim false=(if (decide (0 > lim) || decide (lim - 0 < (header C).1))=true then (xd C t lim (header C)).say false else
   ({xd C t lim (header C) with lastStart:=if (decide ((header C).1 > 1)&& !((header C).2 != 0&&C.getD 2 0 &&& 5 != 0))=true then max 0 (lim - ((header C).1 - 1)) else lim}:M).attemptFrom 0 true):=rfl
 have e0:forSearch C t 0 0 lim false=if lim < 1 then (xd C t lim (1,hb)).say false else (fr C t hb lim).attemptFrom 0 true:=by
  rw[e00,show header C=(1,hb) from F.hdr];dsimp only;rw[show(decide (0 > lim) || decide (lim - 0 < 1))=decide (lim < 1) from by simp];rw[if_neg (show ¬ ((decide (1 > 1)&& !(hb != 0&&C.getD 2 0 &&& 5 != 0))=true) from by simp)]
  by_cases h:lim < 1
  ·rw[if_pos h,if_pos (decide_eq_true h)]
  ·rw[if_neg h,if_neg (by simpa using h)];rfl
 rw[e0]
 by_cases h0:lim=0
 ·subst h0;left;refine⟨⟨_,rfl,?_⟩,fun i hi=>absurd hi (Nat.not_lt_zero i)⟩;rw[if_pos (by decide)];rfl
 ·rw[if_neg (by omega)];have F':SC (fr C t hb lim).code hb w bad:=F
  have hfirst:(fr C t hb lim).hasFirstSet=true:=by
   unfold M.hasFirstSet;rw[show(fr C t hb lim).code=C from rfl,F.inf,F.fl];rfl
  unfold M.attemptFrom;rw[hfirst];rw[if_neg (by simp)];rcases j9 F' ((fr C t hb lim).lim+1 - 0) 0 (fr C t hb lim).seen (by omega) with ⟨s2,e2,q⟩ | ⟨j,s2,e2,q1,q2⟩
  ·left;rw[e2];exact⟨⟨_,rfl,rfl⟩,fun i hi=>q i (Nat.zero_le _) hi⟩
  ·right;rw[e2];refine⟨?_,j,q1,q2⟩;dsimp only;refine⟨_,rfl,?_⟩;exact Bk F t lim j s2 q1 q2
noncomputable def rX:Array Nat:= #[14,10,4,1,1,22,0,31,16,127,0,13,7,22,0,31,16,127,0,1]
noncomputable def gE:Array Nat:= #[14,14,4,1,1,9,4294966783,0,0,2147483648,0,0,0,0,0,13,11,9,4294966783,0,0,2147483648,0,0,0,0,0,1]
noncomputable def aW(c:Nat):Bool:=decide (c≤31) || c==127
noncomputable def aF(c:Nat):Bool:=decide (c < 256)&&((#[4294966783,0,0,2147483648,0,0,0,0]:Array Nat).getD (c / 32) 0).testBit (c % 32)
theorem w5(q:Nat)(h:q < 8):gE.getD (5+(1+q)) 0=(#[4294966783,0,0,2147483648,0,0,0,0]:Array Nat).getD q 0∧gE.getD (17+(1+q)) 0=(#[4294966783,0,0,2147483648,0,0,0,0]:Array Nat).getD q 0:=by
 revert q;walk_at "k"
open PySem.Sre in
theorem yN:SC rX 11 8 aW:=by
 have main:∀ (i:Nat),i=5∨i=13→∀ c seen,∃ s',inSet rX c 20 i true seen=.ok (aW c,s'):=by
  intro i hi c seen
  have e:∃ s1 s2 s3,inSet rX c 20 i true seen=(if (decide (0≤c)&&decide (c≤31))=true then .ok (true,s1) else if (c==127)=true then .ok (true,s2) else .ok (!true,s3)):=by
   rcases hi with rfl | rfl
   ·exact⟨_,_,_,rfl⟩
   ·exact⟨_,_,_,rfl⟩
  obtain⟨s1,s2,s3,e⟩:=e;rw[e];unfold aW;rw[decide_eq_true (Nat.zero_le c),Bool.true_and];cases decide (c≤31) with
  | true=>exact⟨s1,rfl⟩
  | false=>
   cases (c==127) with
   | true=>exact⟨s2,rfl⟩
   | false=>exact⟨s3,rfl⟩
 exact⟨rfl,rfl,rfl,rfl,main 5 (.inl rfl),main 13 (.inr rfl),rfl,rfl,rfl,by decide,by decide⟩
open PySem.Sre in
theorem wW:SC gE 15 12 aF:=by
 have main:∀ (i:Nat),i=5∨i=17→∀ c seen,∃ s',inSet gE c 28 i true seen=.ok (aF c,s'):=by
  intro i hi c seen
  have e:∃ s1 s2,inSet gE c 28 i true seen=(if (decide (c < 256)&&(gE.getD (i+(1+c / 32)) 0).testBit (c % 32))=true then .ok (true,s1) else .ok (!true,s2)):=by
   rcases hi with rfl | rfl
   ·exact⟨_,_,rfl⟩
   ·exact⟨_,_,rfl⟩
  obtain⟨s1,s2,e⟩:=e;rw[e]
  have eb:(decide (c < 256)&&(gE.getD (i+(1+c / 32)) 0).testBit (c % 32))=aF c:=by
   unfold aF
   by_cases h:c < 256
   ·have:=w5 (c / 32) (by omega);rcases hi with rfl | rfl
    ·rw[this.1]
    ·rw[this.2]
   ·rw[decide_eq_false h];rfl
  rw[eb];cases aF c with
  | true=>exact⟨s1,rfl⟩
  | false=>exact⟨s2,rfl⟩
 exact⟨rfl,rfl,rfl,rfl,main 5 (.inl rfl),main 17 (.inr rfl),rfl,rfl,rfl,by decide,by decide⟩
section
variable{M:Model}{A:Around}{E:Value→Shared→Prop}{s:Shared}
theorem nO{m:Sre.M}{Q:Option Sre.M→Shared→Prop}(h:wpAny M A (match m.outcome with
 | some .matched=>pure (some m)
 | some .failed=>pure none
 | some (.stuck why)=>unsupported s!"_sre:{why}"
 | none=>unsupported "internal:sre:no-outcome") Q E s):wpAny M A (do
  for i in List.range Sre.names.size do
   if m.seen.has i then rule (Sre.names.getD i "")
  match m.outcome with
  | some .matched=>pure (some m)
  | some .failed=>pure none
  | some (.stuck why)=>unsupported s!"_sre:{why}"
  | none=>unsupported "internal:sre:no-outcome":Sem (Option Sre.M)) Q E s:=by
 generalize List.range Sre.names.size=l
 induction l with
 | nil=>exact h
 | cons i l ih=>
  simp only[List.forIn_cons,bind_assoc,pure_bind] at ih ⊢;split
  ·exact wpAny_bind (wpAny_bind (wpAny_rule (wpAny_pure ih)))
  ·exact ih
theorem lC{m m':Sre.M}{Q:Sre.M→Shared→Prop}(h1:m.runFor 4=m')(h2:m'.outcome.isSome=true)(h:Q m' s):wpAny M A (Builtin.Re.reDrive (2 ^ 64) m) Q E s:=by
 have e:Builtin.Re.reDrive (2 ^ 64) m=(if (m.runFor 4).outcome.isSome then pure (m.runFor 4) else do rule "sre.turn";Builtin.Re.reDrive 18446744073709551615 (m.runFor 4)):=by
  rw[show(2 ^ 64:Nat)=18446744073709551615+1 from rfl,Builtin.Re.reDrive];rfl
 rw[e,h1,if_pos h2];exact wpAny_pure h
variable{hb:Nat}{bad:Nat→Bool}
theorem rE{C t:Array Nat}{w lim:Nat}{Q:Option Sre.M→Shared→Prop}(F:SC C hb w bad)(hno:(∀ i,i < lim→bad (t.getD i 0)=false)→Q none s)(hyes:(∃ i,i < lim∧bad (t.getD i 0)=true)→∀ m,Q (some m) s):
  wpAny M A (Builtin.Re.reRunToEnd (Sre.forSearch C t 0 0 lim false)) Q E s:=by
 unfold Builtin.Re.reRunToEnd;rcases rG F t lim with ⟨⟨m,h1,h2⟩,q⟩ | ⟨⟨m,h1,h2⟩,q⟩
 ·refine wpAny_bind (lC h1 (by rw[h2];rfl) (nO ?_));rw[h2];exact wpAny_pure (hno q)
 ·refine wpAny_bind (lC h1 (by rw[h2];rfl) (nO ?_));rw[h2];exact wpAny_pure (hyes q m)
open Builtin.Re in
theorem un {P v:Value} {lim:Nat} {m:Sre.M} {Q:Value→Shared→Prop}
  (h:∀ T fs,Q (.ref (s.heap.push T).objs.size) {s with heap:=(s.heap.push T).push {cls:=.type "re.Match",data:=.fields fs}}):wpAny M A (reNewMatch P v 0 0 lim m) Q E s:=by
 unfold reNewMatch;show wpAny M A (newTuple [rawInt m.start,rawInt m.handed] >>= fun r=>newFields "re.Match" [v,P,rawInt (0:Nat),rawInt lim,rawInt m.lastindex,r]) Q E s;exact wpAny_bind (wpAny_newTuple (wpAny_newObj_type (h _ _)))
open Builtin.Re in
theorem uT {P T:Addr} {fs ws:Array Value} {n:Nat} {x:Str} {tx:Tok} {Q:ReTarget→Shared→Prop} (hP:s.heap.get? P=some {cls:=.type "re.Pattern",data:=.fields fs}) (h5:fs.getD 5 .none=.ref T) (h2:reRawNat (fs.getD 2 .none)=0) (h6:reRawNat (fs.getD 6 .none)=0)
  (hT:s.heap.get? T=some {cls:=.type "tuple",data:=.seq ws n}) (hx:x.cps.size≤1000)
  (h:Q {pattern:=.ref P,string:=.str x tx,code:=(ws.map reRawOf).map (·.toNat),text:=x.cps,kind:=0,groups:=0,pos:=0,lim:=x.cps.size} s):
  wpAny M A (reTarget "re.Pattern.search" "search" ⟨[.ref P,.str x tx],[]⟩) Q E s:=by
 unfold reTarget;have e:reNamed "re.Pattern.search" "search" ["string","pos","endpos"] 1 [.str x tx] []=pure [some (.str x tx),none,none]:=rfl;dsimp only;rw[e];simp only[pure_bind];refine wpAny_bind (wpAny_fieldsOf hP rfl ?_);have e2:reTextOf (.str x tx)=pure (x.cps,0):=rfl;rw[e2];simp only[pure_bind,h5,h6,h2];have e3:reNoCollectionInside (.str x tx) 0=pure ():=rfl;show wpAny M A (reNoCollectionInside (.str x tx) 0 >>= fun J=>(reRawItems (.ref T) >>= fun items=>pure _)) Q E s;rw[e3,pure_bind];refine wpAny_bind ?_;unfold reRawItems;refine wpAny_bind (wpAny_seqItems hT rfl (wpAny_pure (wpAny_pure ?_)));have e4:min ((0:Int).toNat) x.cps.size=0:=by simp
 have e5:min ((2 ^ 63 - 1:Int).toNat) x.cps.size=x.cps.size:=by
  have:x.cps.size≤(2 ^ 63 - 1:Int).toNat:=Nat.le_trans hx (by decide);omega
 dsimp only[Option.getD];rw[e4,e5];exact h
end
variable{kx:X→Hp→Prop}
theorem jo:typeLookup (.type "re.Match") (Str.ofString "__bool__")=pure none:=by rw[typeLookup_type,builtinLookup_eq_fast];kernel_rfl
theorem kn:typeLookup (.type "re.Match") (Str.ofString "__len__")=pure none:=by rw[typeLookup_type,builtinLookup_eq_fast];kernel_rfl
variable{A:Around}{a:Addr}
theorem o5{Q:Bool→Shared→Prop}(hT:s.TypeIs (.ref a) "re.Match")(h:Q true s):wpAny (model prog w) A (truthy (.ref a)) Q E s:=by
 unfold truthy
 first
  | refine wpAny_bind (wpAny_callSpecial?_none (name:=Str.ofString "__bool__") hT jo ?_)
  | refine wpAny_bind (wpAny_pure (wpAny_bind (wpAny_callSpecial?_none (name:=Str.ofString "__bool__") hT jo ?_)))
 first
  | refine wpAny_bind (wpAny_specialOf (name:=Str.ofString "__len__") hT kn ?_)
  | refine wpAny_bind (wpAny_pure (wpAny_bind (wpAny_specialOf (name:=Str.ofString "__len__") hT kn ?_)))
 exact wpAny_pure h
theorem nq{a:Nat}{code:List Nat}{C:Array Nat}{hb wd:Nat}{bad:Nat→Bool}{r v:Str}(hev:eval (.Call (.Attribute (.Name r p1) (Str.ofString "search") apos) [.Name v p2] [] pos) env=(do
   let ov←eval (.Name r p1) env
   standAt apos.atName
   let (f,first)←holding [ov] (getMethod ov (Str.ofString "search") pl)
   callWith pos f first (backTo pos (starEach [.Name v p2] env)) []))(hp:xi K a code)(hC:code.toArray=C)(F:SC C hb wd bad)(hx:x.cps.size≤1000)(hr:(r,V.gl a)∈ρ)(hv:(v,V.str x)∈ρ)(h:kb (x.cps.any bad) H):Eb prog w K d hd env ρ (isTrue (.Call (.Attribute (.Name r p1) (Str.ofString "search") apos) [.Name v p2] [] pos) env (eval (.Call (.Attribute (.Name r p1) (Str.ofString "search") apos) [.Name v p2] [] pos) env)) H kb kx:=by
 intro A σ Z s Q E hA S Fr hQ hE;refine isTrue_plain ?_ rfl;have hO:Ev prog w K d hd env ρ (eval (.Name r p1) env) H (fun u H'=>u=.gl a∧H'=H) kx:=cm hr ⟨rfl,rfl⟩;have hV:Es prog w K d hd env ρ (spliced (backTo pos (starEach [.Name v p2] env))) H (fun us H'=>us=[.str x]∧H'=H) kx:=vB rfl (cm hv (xH ⟨rfl,rfl⟩));obtain⟨fs,T,ws,n,hP,h5,h2,h6,hTt,hcode⟩:=hp;refine MethodCall_ (pl:=pl) (hO A σ Z s _ _ hA S Fr (fun ov s1 σ1 u H1 g1 S1 hu hk=>?_) (fun e s' σ' x H' g' S' hx hk=>hE e s' σ' x H' g' S' hx hk)) hev
 revert hk;refine am fun q t=>?_;obtain rfl:=q;obtain rfl:=t
 subst hu;have hPs:s1.heap.get? a=some {cls:=.type "re.Pattern",data:=.fields fs}:=S1.kin _ _ hP;refine getMethod_builtin (T:="re.Pattern") ⟨_,hPs,rfl⟩ ux gV qt (fun b e=>by exists e;exact⟨_,hPs,rfl⟩) ?_;refine callWith_method1 (hV A σ1 Z s1 _ _ hA S1 (Fr.go S g1) (fun vs s2 σ2 us H2 g2 S2 hus hk2=>?_) (hE.go g1)) rfl rfl
 revert hk2;refine am fun q t=>?_;obtain rfl:=q;obtain rfl:=t
 obtain⟨xv,rfl,hxv⟩:=hus.inv1
 revert hxv;refine af fun tx t=>?_;obtain rfl:=t
 have hPs2:s2.heap.get? a=some {cls:=.type "re.Pattern",data:=.fields fs}:=S2.kin _ _ hP;have hTs2:s2.heap.get? T=some {cls:=.type "tuple",data:=.seq ws n}:=S2.kin _ _ hTt;refine wpAny_call (codeAny_call_builtin gV.plain oq (gV.check _ _ _ _ _ _ _ _ ⟨_,hPs2,rfl⟩ (pb _ _) ?_));show wpAny _ A.in1 (Builtin.Re.reTarget "re.Pattern.search" "search" ⟨[.ref a,.str x tx],[]⟩ >>= fun t=>Builtin.Re.reAnswer t (Sre.forSearch t.code t.text t.groups t.pos t.lim false)) _ _ s2;refine wpAny_bind (uT hPs2 h5 h2 h6 hTs2 hx ?_);have hcode':(ws.map Builtin.Re.reRawOf).map (·.toNat)=C:=by rw[←hC,←hcode]
 dsimp only;rw[hcode'];unfold Builtin.Re.reAnswer;refine wpAny_bind (rE F (fun hno=>?_) (fun hyes m=>?_))
 ·have e:x.cps.any bad=false:=by
   rw[Array.any_eq_false];intro i hi;have:=hno i hi;rw[Array.getD_eq_getD_getElem?,Array.getElem?_eq_getElem hi] at this
   simpa using this
  rw[e] at h;refine wpAny_pure ?_;exact truthy_none (hQ _ s2 σ2 _ (g1.trans g2) S2 h)
 ·have e:x.cps.any bad=true:=by
   revert hyes;refine ab fun i hi hb=>?_
   rw[Array.any_eq_true];refine⟨i,hi,?_⟩;rw[Array.getD_eq_getD_getElem?,Array.getElem?_eq_getElem hi] at hb
   simpa using hb
  rw[e] at h;refine wpAny_bind (un fun T fs=>wpAny_pure ?_);show wpAny _ A (truthy (.ref (s2.heap.push T).objs.size)) Q E _;refine o5 ⟨_,Heap.get?_push_size _ rfl,rfl⟩ ?_;have hk:∀ b o,s2.heap.get? b=some o→((s2.heap.push T).push {cls:=.type "re.Match",data:=.fields fs}).get? b=some o:=fun b o e=>Heap.get?_push_of_some _ (Heap.get?_push_of_some _ e);have g3:Go Z σ2 [] s2 σ2 {s2 with heap:=(s2.heap.push T).push {cls:=.type "re.Match",data:=.fields fs}}:=.of ⟨fun b o e J J J=>hk b o e,fun b o e=>⟨o,hk b o e,fun h=>h⟩,⟨[],by walk_at "s",fun J h=>nomatch h⟩,rfl,rfl⟩;exact hQ _ _ σ2 _ (g1.trans (g2.trans g3)) (S2.go g3 (fun J h=>nomatch h) fun a o J e=>hk a o e) h
variable{kx:X→Hp→Prop}
noncomputable def vP:Str:=Str.ofString "Header names/values must be of type str (got {0})"
noncomputable def eX:Str:=Str.ofString "Header names/values must be of type str (got ['x'])"
theorem xO(t1 t2:Tok):Builtin.«str.format» ⟨[.str vP t1,.str (Str.ofString "['x']") t2],[]⟩=retStr eX:=by kernel_rfl
theorem rv(h:k (.str eX) H):Pr prog w K d hd [.str vP,.str (Str.ofString "['x']")] (fun vs=>call (.builtin "str.format") vs) H k kx:=by
 refine az fun A σ Z s a b Q E hA S h1 h2 hQ hE=>?_
 revert h1;refine af fun t1 t=>?_;obtain rfl:=t
 revert h2;refine af fun t2 t=>?_;obtain rfl:=t
 refine wpAny_call (codeAny_call_builtin F.slot_str_format_m.plain F.entry_str_format_m (F.slot_str_format_m.check _ _ _ _ _ _ _ _ (typeIs_str s _ _) (F.args_str_format_m_2 _ _) ?_));rw[xO];unfold retStr;refine wpAny_bind (wpAny_mkStr (wpAny_pure ?_) ∅);exact hQ _ _ σ _ H (Go.tok ..) (S.tok _) VR.str h
theorem oU(hd1:b9 l=true)(hs:(V.lst l).dat.showable=true)(hnd:(V.lst l).dat.hasDict=false)(hdp:(V.lst l).dat.depth≤30)(hsz:(V.lst l).dat.shown.length≤sizeLine)(h:k (.str (V.lst l).dat.shown) H):
  Pr prog w K (d+1) hd [.lst l] (fun vs=>call (.builtin "repr") vs) H k kx:=by
 refine bu fun A σ Z s a Q E hA S ha hQ hE=>?_;refine ab (fun as r J=>?_) (V.reads (.lst l) hd1 ha);have ha':=ha;obtain⟨b,vs',rfl,_⟩:=ha';refine repr_of_reads' r hs (fun q=>by rw[hnd] at q;exists q) hA.guards (by have:=hA.u40;omega) (fun J J e=>e) (fun h' u tk hk=>?_) hsz;have g:Go Z σ [] s σ {s with heap:=h',toks:=tk}:=.of ⟨fun b o e J J J=>hk b o e,fun b o e=>⟨o,hk b o e,fun h=>h⟩,⟨[],by walk_at "s",fun J h=>nomatch h⟩,rfl,rfl⟩;exact hQ _ _ σ _ _ g (S.go g (fun J h=>nomatch h) fun a o J e=>hk a o e) VR.str h
theorem uG(h:k (.str (Str.ofString "['x']")) H):Pr prog w K (d+1) hd [.lst [.str (Str.ofString "x")]] (fun vs=>call (.builtin "repr") vs) H k kx:=by
 have e:(V.lst [.str (Str.ofString "x")]).dat.shown=Str.ofString "['x']":=by walk_at "k"
 exact oU ∅ ∅ ∅ ∅ (by rw[e];walk_at "k") (e▸h)
variable{kx:X→Hp→Prop}
theorem OR.kind:∀ {ob:Ob} {a:Addr},OR P h σ Z ob a→∃ o,h.get? a=some o∧∀ vs,o.data≠ .fields vs
 | .l _,_,q=>by obtain⟨_,⟨_,e⟩,_⟩:=q;exact⟨_,e,fun J=>nofun⟩
 | .d _ _,_,q=>by obtain⟨_,⟨o,es,n,e,_,d,_,_,_⟩,_⟩:=q;exact⟨o,e,fun vs q=>by rw[d] at q;exists q⟩
 | .n _ _,_,q=>by obtain⟨_,⟨_,o,es,ep,e,d,_⟩,_⟩:=q;exact⟨o,e,fun vs q=>by rw[d] at q;exists q⟩
 | .f none,_,q=>by obtain⟨o,_,e,_,d,_⟩:=q;exact⟨o,e,fun vs q=>by rw[d] at q;exists q⟩
 | .f (Option.some _),_,q=>by obtain⟨o,_,_,e,_,d,_,_⟩:=q;exact⟨o,e,fun vs q=>by rw[d] at q;exists q⟩
theorem St.asif(S:St K P A σ Z H s):St K P A [] Z [] s:=
 St.freeze (σ:=[]) (τ:=σ) S (by rw[List.length_nil,List.take_zero];exact .nil)
theorem Go.asif{X:List Addr}(g:Go Z [] X s σ' s'):Go Z σ X s σ s':=
 ⟨fun b o e h0 J h2=>g.up b o e h0 List.not_mem_nil h2,g.dom,⟨[],by walk_at "s",fun J h=>nomatch h⟩,g.os,g.gens⟩
theorem St.back{X:List Addr}{H':Hp}(S:St K P A σ Z H s)(g:Go Z [] X s σ' s')(hX:∀ a∈X,a∈Z)(S':St K P A σ' Z H' s'):St K P A σ Z H s':=by
 have hf:∀ a o,Fz σ Z a→s.heap.get? a=some o→s'.heap.get? a=some o∧Fz σ Z a:=fun a o f e=>⟨g.get hX e ⟨f.lo,List.not_mem_nil,f.nz⟩,f⟩
 have hm:∀ a o,a∈σ→s.heap.get? a=some o→s'.heap.get? a=some o:=fun a o h e=>
  g.ext a o e (fun q=>by have:=S.ks a h;rw[q] at this;exact absurd this (by decide)) List.not_mem_nil (fun q=>S.apart a h (hX a q)) (.inl (S.apart a h))
 refine⟨S'.kin,S'.kb,S'.bs,S.ks,S'.kz,S'.zd,S.len,S.nd,S.apart,fun r l e=>?_,S'.gens,S'.fr,?_,S.hx.tr rfl hf⟩
 ·refine ab (fun a ea q=>?_) (S.hr r l e);exact⟨a,ea,q.tr hf (fun J J h=>h) fun o e=>hm a o (List.mem_of_getElem? ea) e⟩
 ·obtain⟨ps,e,k1,q⟩:=S'.tb;refine⟨ps,e,k1,fun pos cv hc=>?_⟩;obtain⟨c,oc,ws,t,e1,f1,ho1,hd1,hw⟩:=q pos cv hc;refine⟨c,oc,ws,t,e1,⟨f1.lo,fun hmem=>?_,f1.nz⟩,ho1,hd1,hw⟩;obtain⟨i,hi,ei⟩:=List.getElem_of_mem hmem;have hi2:i < H.length:=by rw[←S.len];exact hi
  refine ab (fun a ea q2=>?_) (S.hr i H[i] (List.getElem?_eq_getElem hi2));have:a=c:=by rw[List.getElem?_eq_getElem hi,ei] at ea;exact(Option.some.inj ea).symm
  subst this;obtain⟨o,ho,hnf⟩:=q2.kind;have h2:=hm a o hmem ho;rw[h2] at ho1;exists ho1;exact hnf _ hd1
noncomputable def V.simple:V→Bool
 | .none | .bool _ | .int _ | .str _=>true
 | _=>false
theorem V.simple.vr(hs:u.simple=true)(q:VR P h σ Z u v):VR P h σ' Z u v:=by
 cases u with
 | none=>exact q
 | bool b=>exact q
 | int b=>exact q
 | str b=>exact q
 | _=>exact absurd hs Bool.false_ne_true
theorem aM.asif(S:St K P A σ Z H s){l':List V}(h:aM H 0 l l')(q:ak P s.heap σ Z l vs):ak P s.heap [] Z l' vs:=
 aM.vrs (σ:=[]) (τ:=σ) S h q
theorem du.asif(S:St K P A σ Z H s)(h:du H 0 u u')(q:VR P s.heap σ Z u v):VR P s.heap [] Z u' v:=
 du.vr (σ:=[]) (τ:=σ) S h q
theorem yJ{xs':List V}{f:List Value→Sem Value}(hz:aM H 0 xs xs')(h:Pr prog w K d hd xs' f [] (fun u J=>u.simple=true∧k u H) (fun J J=>False)):Pr prog w K d hd xs f H k kx:=by
 intro A σ Z s vs Q E hA S hv hQ hE;refine h A [] Z s vs Q E hA S.asif (hz.asif S hv) (fun v s' σ' x H' g' S' hx hk=>?_) (fun J J J J J J J J q=>q.elim);exact hQ v s' σ x H g'.asif (S.back g' (fun J h=>nomatch h) S') (V.simple.vr hk.1 hx) hk.2
theorem si{kxs:X→ai→Hp→Prop}(hz:∀ x u',(x,u')∈ρ'→∃ u,(x,u)∈ρ∧du H 0 u u')(h:Ex prog w K d hd env ρ' t [] (fun fl J J=>fl=.next∧ks .next [] H) (fun J J J=>False)):
  Ex prog w K d hd env ρ t H ks kxs:=by
 intro A σ Z s Q E hA S F hQ hE
 have F':FR w.params [] Z env ρ' s.heap:=by
  refine⟨F.kind,F.glob,F.blt,?_,fun x u' e1 e2=>?_,fun x u' e1=>?_,F.locZ,fun x c hc=>⟨(F.celZ x c hc).1.imp (fun q=>q) fun⟨f,k⟩=>⟨⟨f.lo,List.not_mem_nil,f.nz⟩,k⟩,(F.celZ x c hc).2⟩,F.one,F.cex,fun x u' e1=>?_,F.celD⟩
  ·obtain⟨m,hm,q⟩:=F.ns;refine⟨m,hm,fun x u' e1 e2=>?_⟩;refine ab (fun u hu hf=>?_) (hz x u' e1);refine ab (fun v e3 hv=>?_) (q x u hu e2);exact⟨v,e3,hf.asif S hv⟩
  ·refine ab (fun u hu hf=>?_) (hz x u' e1);refine ee (fun c v e3 e4 hv=>?_) (F.cell x u hu e2);exact⟨c,v,e3,e4,hf.asif S hv⟩
  ·refine ab (fun u hu J=>?_) (hz x u' e1);exact F.all x u hu
  ·refine ab (fun u hu J=>?_) (hz x u' e1);exact F.plain x u hu
 refine h A [] Z s Q E hA S.asif F' (fun f s' σ' fl ρ2 H' g' S' F2 hf hk=>?_) (fun J J J J J J J J J J q=>q.elim)
 revert hk;refine am fun q hk=>?_;obtain rfl:=q
 have e:f=.next:=hf;subst e
 have F3:FR w.params σ Z env [] s'.heap:=by
  refine⟨F.kind,F.glob,F.blt,?_,fun J J q=>(nomatch q),fun J J q=>(nomatch q),F.locZ,fun x c hc=>F.celZ x c hc,F.one,F2.cex,fun J J q=>(nomatch q),F.celD⟩;obtain⟨m,hm,_⟩:=F2.ns;exact⟨m,hm,fun J J q=>(nomatch q)⟩
 exact hQ _ s' σ .next [] H g'.asif (S.back g' (fun a h=>F.ownZ a h) S') F3 rfl hk
variable{kx:X→Hp→Prop}
theorem pI(ok:bI K)(hr:H[r]? =some (.n kl l))(hu:(kl.zip l).lookup (Str.ofString "_headers")=some u)(hb:gk u=true)(h:k u H):Pr prog w K d hd [.ins 306 r] (gA (Str.ofString "_headers")) H k kx:=
 kB ok.hs hr (ok.hsNo "__getattribute__" ∅) (ok.hsNo "_headers" ∅) iG hu hb h
theorem eZ(ok:bI K)(hu:(kl.zip l).lookup (Str.ofString "_headers")=some u)(hb:gk u=true)(h:k u H):Pr prog w K d hd [.fin 306 kl l] (gA (Str.ofString "_headers")) H k kx:=
 kA ok.hs (ok.hsNo "__getattribute__" ∅) (ok.hsNo "_headers" ∅) iG hu hb h
theorem v8(ok:bI K)(hr:H[r]? =some (.n kl l))(hl:kl.length≤1000)(h:k .none (H.set r (.n (Str.ofString "_headers"::kl) (u::l)))):Pr prog w K d hd [.ins 306 r,u] (sA (Str.ofString "_headers")) H k kx:=
 mo ok.hs hr (ok.hsNo "__setattr__" ∅) (ok.hsNo "_headers" ∅) iG hl (by decide) h
theorem bN(ok:bI K)(hm:(name,fa)∈[("__init__",200),("_convert_string_type",207),("get_all",245),("get",253),("items",270),("add_header",303)])(hf:∃ o,K.lookup fa=some o∧o.cls=.type "function")(hB:typeLookup (.type "object") (Str.ofString name)=pure y)(hsh:Str.ofString name∉kk):Gi prog w K (.fin 306 kk l) (Str.ofString name) (.ref fa) H:=by
 revert hf;refine ab fun o h1 h2=>?_
 exact vU ok.hs (ok.hsNo "__getattribute__" ∅) (ok.hsNo "__getattr__" ∅) (ok.hsM _ hm) h1 h2 hB hsh
theorem eu(ok:bI K)(hr:H[r]? =some (.n kk l))(hm:(name,fa)∈[("__init__",200),("_convert_string_type",207),("get_all",245),("get",253),("items",270),("add_header",303)])(hf:∃ o,K.lookup fa=some o∧o.cls=.type "function")(hB:typeLookup (.type "object") (Str.ofString name)=pure y)(hsh:Str.ofString name∉kk):Gi prog w K (.ins 306 r) (Str.ofString name) (.ref fa) H:=by
 revert hf;refine ab fun o h1 h2=>?_
 exact AF ok.hs hr (ok.hsNo "__getattribute__" ∅) (ok.hsNo "__getattr__" ∅) (ok.hsM _ hm) h1 h2 hB hsh
theorem fW:typeLookup (.type "object") (Str.ofString "_convert_string_type")=pure none:=by rw[typeLookup_type,builtinLookup_eq_fast];kernel_rfl
theorem iF:typeLookup (.type "object") (Str.ofString "get_all")=pure none:=by rw[typeLookup_type,builtinLookup_eq_fast];kernel_rfl
theorem A1:typeLookup (.type "object") (Str.ofString "get")=pure none:=by rw[typeLookup_type,builtinLookup_eq_fast];kernel_rfl
theorem pU:typeLookup (.type "object") (Str.ofString "items")=pure none:=by rw[typeLookup_type,builtinLookup_eq_fast];kernel_rfl
theorem fm:typeLookup (.type "object") (Str.ofString "add_header")=pure none:=by rw[typeLookup_type,builtinLookup_eq_fast];kernel_rfl
theorem u8{ns:List Str}{ext:List Value→List Value}(hb:w8 K fd m [] m ns ext)(hl:xs.length=m)(he:∀ (P:Params) (h:Heap) (σ Z:List Addr) (vs:List Value),ak P h σ Z xs vs→ak P h σ Z ys (ext vs)):Bd prog w K fd (fun vs=>⟨vs,[]⟩) xs ns ys H:=by
 intro A σ Z s vs Q E S hv hQ;have hlen:vs.length=m:=hv.length.symm.trans hl;have:=(Looks.of_peek (M:=model prog w) S.kin (hb _ vs hlen)).here (A:=A.in1) (E:=E) (Q:=Q) (s:=s) (hQ _ s (Go.refl ..) S (he _ _ _ _ _ hv));rw[List.take_of_length_le (by omega)] at this;exact this
variable{kx:X→Hp→Prop}
theorem qM:entryFor table "dict_itemiterator.__iter__"=some Builtin.«dict_keyiterator.__iter__»:=entryFor_alias (id':="dict_keyiterator.__iter__") ⋯ rfl ∅ ⋯
variable{kk:Nat}
theorem ua(hn:hd.h=true){tp:Pos}(hev:eval (.Call (.Attribute (.Name x p1) (Str.ofString "items") apos) [] [] pos) env=(do
   let ov←eval (.Name x p1) env
   standAt apos.atName
   let (f,first)←holding [ov] (getMethod ov (Str.ofString "items") pl)
   callWith pos f first (backTo pos (starEach [] env)) []))(hx:(x,V.dct [] [])∈ρ)(h:kI [] H):Ie prog w K d hd env ρ (.Tuple elts kk tp) (eval (.Call (.Attribute (.Name x p1) (Str.ofString "items") apos) [] [] pos) env) H kI kx:=by
 intro A σ Z s Q E hA S F hQ hE;have hO:Ev prog w K d hd env ρ (eval (.Name x p1) env) H (fun u H'=>u=.dct [] []∧H'=H) kx:=cm hx ⟨rfl,rfl⟩;refine MethodCall_ (pl:=pl) (hO A σ Z s _ _ hA S F (fun ov s1 σ1 u H1 g1 S1 hu hk=>?_) (fun e s' σ' x H' g' S' hx hk=>hE e s' σ' x H' g' S' hx hk)) hev
 revert hk;refine am fun q t=>?_;obtain rfl:=q;obtain rfl:=t
 obtain⟨a,vs,rfl,f,hd0,hvs⟩:=hu;have hdo:s1.heap.DictOf (strKind prog w) a ([]:List (Str × Value)):=hd0.of (prog:=prog) (w:=w);obtain⟨ep,hda⟩:=hdo.dictAt;have hsys:(a==sysModules)=false:=k9 f.lo;have hh:A.handled=none:=hA.none hn;obtain⟨oa,hoa⟩:=hd0.ex;have hal:a < s1.heap.objs.size:=Heap.lt_size hoa;have hT:=hdo.typeIs;obtain⟨oc,_,_,hoc,hex,_⟩:=id hd0;refine getMethod_builtin (T:="dict") hT PySem.F.plainAttrs_dict PySem.F.slot_dict_items PySem.F.type_dict_items (fun b e=>by exists e;exact⟨oc,hoc,hex.2.1⟩) ?_;refine callWith_method0 ?_;refine call_meetsIn PySem.F.slot_dict_items hT PySem.F.entry_dict_items (PySem.F.args_dict_items_1 _) (meets_dict_items (strKind prog w) a hsys) ⟨⟨[],hdo⟩,?_⟩;show wpAny _ A (pyIter (.ref s1.heap.objs.size)) Q E _;have hk1:∀ b o,s1.heap.get? b=some o→(s1.heap.push {cls:=.type "dict_items",data:=.fields #[.ref a]}).get? b=some o:=fun b o e=>Heap.get?_push_of_some _ e;have hda1:=hda.at fun o e=>hk1 a o e;refine wpAny_pyIter_items (kvs:=[]) (ep:=ep) ⟨_,Heap.get?_push_size _ rfl,rfl,rfl⟩ hda1 ?_;have g2:Go Z σ1 [] s1 σ1 {s1 with heap:=s1.heap.push {cls:=.type "dict_items",data:=.fields #[.ref a]}}:=Go.push Z σ1 s1 _ s1.toks;have S2:St K w.params A σ1 Z H1 {s1 with heap:=s1.heap.push {cls:=.type "dict_items",data:=.fields #[.ref a]}}:=S1.push _ s1.toks;have hsz:(s1.heap.push {cls:=.type "dict_items",data:=.fields #[.ref a]}).objs.size=s1.heap.objs.size+1:=Heap.size_push ..
 have hne:a≠(s1.heap.push {cls:=.type "dict_items",data:=.fields #[.ref a]}).objs.size:=by rw[hsz];exact Nat.ne_of_lt (Nat.lt_succ_of_lt hal)
 refine hQ _ σ1 {s1 with heap:=s1.heap.push {cls:=.type "dict_items",data:=.fields #[.ref a]}} H1 [] _ (g1.trans g2) S2 h ?_
 refine lR (n:=0) (P:=fun J J J J=>False) (fp:=[(s1.heap.push {cls:=.type "dict_items",data:=.fields #[.ref a]}).objs.size,a])
  (Ws:=fun J h=>IsItemIter h (s1.heap.push {cls:=.type "dict_items",data:=.fields #[.ref a]}).objs.size a 0 0 ep .none .none∧h.DictAt (strKind prog w) a [] ep) rfl ?_ ⟨Heap.get?_push_size _ rfl,hda1.at fun o e=>Heap.get?_push_of_some _ e⟩ ?_ ?_
 ·refine⟨fun b hb=>by rw[List.mem_singleton.mp hb];exact List.mem_cons_self,fun i h st b hb=>?_,fun i h st b hb o e=>?_,fun i h h' st hk=>?_,fun i s' Q E hi=>absurd hi (Nat.not_lt_zero i),fun s' Q E st hq=>?_,fun i s' Q E st hq=>?_⟩
  ·rcases List.mem_cons.mp hb with rfl | hb
   ·exact⟨_,st.1⟩
   ·refine aV (fun o J e J=>?_) st.2;rw[List.mem_singleton.mp hb];exact⟨o,e⟩
  ·rw[List.mem_singleton.mp hb] at e;rw[st.1] at e;exists e;rfl
  ·exact⟨hk _ List.mem_cons_self _ st.1,st.2.at fun o e=>hk a (List.mem_cons_of_mem _ List.mem_cons_self) o e⟩
  ·refine wpAny_pyNext_items_end (kvs:=[]) hh st.1 st.2 rfl fun h' he=>hq h' s'.toks fun b o hb e=>he b o (fun q=>hb (List.mem_singleton.mpr q)) e
  ·have hT2:s'.TypeIs (.ref (s1.heap.push {cls:=.type "dict_items",data:=.fields #[.ref a]}).objs.size) "dict_itemiterator":=⟨_,st.1,rfl⟩;refine wpAny_pyIter_slot hT2 PySem.F.slot_dict_itemiterator_iter (wpAny_call_entry PySem.F.slot_dict_itemiterator_iter hT2 qM ?_ (PySem.F.args_dict_itemiterator_iter_1 _));show wpAny _ _ (ret (.ref _)) _ _ s';exact wpAny_pure ⟨_,rfl,"dict_itemiterator",_,hT2,PySem.F.slot_dict_itemiterator_next.lookup,hq⟩
 ·intro b hb;rcases List.mem_cons.mp hb with rfl | hb
  ·exact .inl rfl
  ·rw[List.mem_singleton.mp hb];exact .inr ⟨f,oa,hk1 a oa hoa⟩
 ·intro i x y h h' σ' Z' e;simp at e
variable{kx:X→Hp→Prop}
variable{o:Obj}
set_option tactic.hygienic true in
theorem qy{M:Model}{Q:α→Shared→Prop}(X:K.In s.heap):
  ∀ (t:Sem α) (g:Addr→Sem α),peekA K ⟨M.prog,M.w.params⟩ t=some (o,g)→wpAny M A (g s.heap.objs.size) Q E {s with heap:=s.heap.push o}→wpAny M A t Q E s:=by
 intro t
 induction t with
 | rule _ k ih=>intro g e q Γ p hΓ;exact ih () g e q Γ p hΓ
 | point _ k ih=>intro g e q Γ p hΓ;exact ih () g e q Γ p hΓ
 | ask k ih=>intro g e q Γ p hΓ;exact ih _ g e q Γ p hΓ
 | load a _ k ih=>
  intro g e q Γ p hΓ;simp only[peekA] at e;split at e
  ·rename_i ob ho;exact⟨ob,X _ _ ho,ih ob g e q Γ p hΓ⟩
  ·exists e
 | alloc ob k _=>
  intro g e q;have e:some (ob,k)=some (o,g):=e;refine am (fun e1 e2=>?_) (Prod.mk.inj (Option.some.inj e));subst e1;subst e2;show wpAny M A (alloc ob >>= k) Q E s;exact wpAny_bind (wpAny_alloc q)
 | _=>intro g e;exists e
theorem y7{ns:List Str}(hb:Bz K fd m [] m ns none)(hl:xs.length=m):Bd prog w K fd (fun vs=>⟨vs,[]⟩) xs ns (xs++[.dct [] []]) H:=by
 intro A σ Z s vs Q E S hv hQ;have hlen:vs.length=m:=hv.length.symm.trans hl;refine ab (fun g h1 h2=>?_) (hb ⟨prog,w.params⟩ vs hlen)
 have key:wpAny (model prog w) A.in1 (bindArgs fd ⟨vs.take m,([]:List Str).zip (vs.drop m)⟩) Q E s:=by
  refine qy (M:=model prog w) S.kin _ g h1 ?_;rw[h2];refine wpAny_pure (hQ _ _ (Go.push Z σ s _ s.toks) (S.push _ s.toks) ?_);refine ak.app (ak.go (Go.push Z σ s _ s.toks) (fun J h=>nomatch h) _ hv) (ak.one ?_);refine⟨s.heap.objs.size,[],rfl,S.fresh,⟨_, #[],0,Heap.get?_push_size _ rfl,⟨rfl,rfl,rfl⟩,rfl,fun e he=>(nomatch (Array.mem_toList_iff.mpr he:e∈([]:List DictEntry))),trivial,List.nodup_nil⟩,ak.nil⟩
 rw[List.take_of_length_le (by omega)] at key;exact key
variable{Q:Unit→Shared→Prop}
theorem ur{d:Addr}{k:Str}(hd:s.heap.get? d=some {cls:=.type "dict",data:=.dict #[]})(h:∀ h',(∀ b o,b≠d→s.heap.get? b=some o→h'.get? b=some o)→cZ w.params h' d [k] [v]→Q () {s with heap:=h',toks:=s.toks+1}):wpAny (model prog w) A (nsSet d k v) Q E s:=by
 unfold nsSet;refine wpAny_bind (wpAny_bind (wpAny_askSetting (wpAny_pure (wpAny_bind (wpAny_mkText (wpAny_bind (wpAny_loadPart hd ?_)))))));dsimp only;refine wpAny_updatePart hd (h _ ?_ ?_)
 ·intro b o hb e;rw[Heap.get?_update_other _ _ (Ne.symm hb)];exact e
 ·have e:Obj.putName k (PyData.keyHash w.params k) (.str k s.toks) v {cls:=.type "dict",data:=.dict #[]}={cls:=.type "dict",data:=.dict #[⟨PyData.keyHash w.params k,.str k s.toks,v⟩] 1}:=by
   rw[show({cls:=.type "dict",data:=.dict #[]}:Obj)=dictOf [] 0 from rfl,putName_dict];rfl
  have hget:=Heap.get?_update_self (Obj.putName k (PyData.keyHash w.params k) (.str k s.toks) v) hd (by rw[e];rfl);rw[e] at hget;refine⟨_, #[⟨PyData.keyHash w.params k,.str k s.toks,v⟩],1,hget,⟨rfl,rfl,rfl⟩,rfl,fun en hen=>?_,⟨?_,rfl,trivial⟩,by walk_at "s"⟩
  ·have:en=⟨PyData.keyHash w.params k,.str k s.toks,v⟩:=by simpa using hen
   subst this;exact⟨k,strKind_is prog w k s.toks,rfl⟩
  ·exact strKind_is prog w k s.toks
theorem ak.unapp{P:Params}{h:Heap}{σ Z:List Addr}:∀ {l1 l2:List V} {vs:List Value},ak P h σ Z (l1++l2) vs→∃ v1 v2,vs=v1++v2∧ak P h σ Z l1 v1∧ak P h σ Z l2 v2
 | [],l2,vs,q=>⟨[],vs,rfl,ak.nil,q⟩
 | x::l1,l2,vs,q=>by
  rw[List.cons_append] at q
  revert q;refine aV fun v r q t=>?_;obtain rfl:=q;revert t;refine am fun hx hl=>?_
  refine aV (fun v1 v2 q t=>?_) (ak.unapp hl);obtain rfl:=q;revert t;refine am fun q1 q2=>?_;exact⟨v::v1,v2,rfl,by exact⟨v,v1,rfl,hx,q1⟩,q2⟩
theorem BR{ns:List Str}{ys:List V}{key:Str}(hb:Bz K fd n [key] (n+1) ns (some key))(hl:xs.length=n):
  Bd prog w K fd (fun vs=>⟨vs.take n,[key].zip (vs.drop n)⟩) (xs++[u]) ns (xs++[.dct [key] [u]]) H:=by
 intro A σ Z s vs Q E S hv hQ;have hlen:vs.length=n+1:=by rw[←hv.length];simp[hl]
 refine ab (fun g h1 h2=>?_) (hb ⟨prog,w.params⟩ vs hlen);refine qy (M:=model prog w) S.kin _ g h1 ?_;rw[h2];refine aV (fun v1 v2 q t=>?_) (ak.unapp hv);obtain rfl:=q;revert t;refine am fun q1 q2=>?_;obtain⟨v,rfl,q3⟩:=q2.inv1;have hl1:v1.length=n:=by rw[←q1.length,hl]
 have et:(v1++[v]).take n=v1:=by rw[←hl1,List.take_left'];rfl
 have eg:(v1++[v]).getD n .none=v:=by rw[List.getD_eq_getElem?_getD,←hl1,List.getElem?_concat_length];rfl
 show wpAny _ A.in1 (nsSet s.heap.objs.size key ((v1++[v]).getD n .none) >>= fun J=>pure (ns.zip ((v1++[v]).take n++[.ref s.heap.objs.size]))) Q E _;rw[et,eg];refine wpAny_bind (ur (Heap.get?_push_size _ rfl) fun h' hk hdr=>wpAny_pure ?_);have hk':∀ b o,s.heap.get? b=some o→h'.get? b=some o:=fun b o e=>hk b o (Nat.ne_of_lt (Heap.lt_size e)) (Heap.get?_push_of_some _ e);have g':Go Z σ [] s σ {s with heap:=h',toks:=s.toks+1}:=.of ⟨fun b o e J J J=>hk' b o e,fun b o e=>⟨o,hk' b o e,fun h=>h⟩,⟨[],by walk_at "s",fun J h=>nomatch h⟩,rfl,rfl⟩;refine hQ _ _ g' (S.go g' (fun J h=>nomatch h) fun a o J e=>hk' a o e) ?_;refine ak.app (ak.go g' (fun J h=>nomatch h) _ q1) (ak.one ?_);exact⟨s.heap.objs.size,[v],rfl,S.fresh,hdr,ak.one (VR.go g' (fun J h=>nomatch h) _ q3)⟩
variable{kx:X→Hp→Prop}
theorem jr(hx:x.length≤5592405)(h:k (.str (Txt.lower x)) H):Pr prog w K d hd [.str x] (fun vs=>call (.builtin "str.lower") vs) H k kx:=by
 refine bu fun A σ Z s a Q E hA S ha hQ hE=>?_
 revert ha;refine af fun t t=>?_;obtain rfl:=t
 exact SCL.lower hx fun J=>hQ _ _ σ _ _ (Go.tok ..) (S.tok _) VR.str h
theorem qi(hx:x.length≤5592405)(h:k (.str (Txt.upper x)) H):Pr prog w K d hd [.str x] (fun vs=>call (.builtin "str.upper") vs) H k kx:=by
 refine bu fun A σ Z s a Q E hA S ha hQ hE=>?_
 revert ha;refine af fun t t=>?_;obtain rfl:=t
 exact SCL.upper hx fun J=>hQ _ _ σ _ _ (Go.tok ..) (S.tok _) VR.str h
variable{kx:X→Hp→Prop}
theorem l9{cenv:Env}{scope:Scope}{Xw:List Addr}(hsc:Sc cenv scope Xw){y:Str}{py py2:Pos}{iter2:PySem.Expr}(hy:aG scope y=true){ρb:ai}(hyb:ρb.all (fun p=>p.1 != y)=true){K':List V→ai→Hp→Prop}:
  ∀ (l2:List V) (acc:List V) (ρ:ai),(ρ=ρb∨∃ v,ρ=(y,v)::ρb)→acc.length+l2.length≤1000→(∀ ρ',(ρ'=ρb∨∃ v,ρ'=(y,v)::ρb)→K' (acc++l2) ρ' H)→
   eR prog w K d hd cenv Xw ⟨.Name y py,iter2,[],0⟩ (qD prog w K d hd cenv Xw (.Name y py2) []) l2 K' acc ρ H
 | []=>fun acc ρ hR hl hk=>by
  have:=hk ρ hR;rw[List.append_nil] at this;exact this
 | v::l2=>fun acc ρ hR hl hk=>by
  refine ad hsc hy (ρ':=(y,v)::ρb) ?_ (dN ?_)
  ·rcases hR with rfl | ⟨v',rfl⟩
   ·intro q hq;rcases List.mem_cons.mp hq with e | hq
    ·exact .inl e
    ·exact .inr ⟨hq,by simpa using (List.all_eq_true.mp hyb) q hq⟩
   ·exact ba.here hyb
  ·rw[List.length_cons] at hl;refine And.intro (by omega) (cm List.mem_cons_self ?_);refine l9 hsc hy hyb l2 (acc++[v]) _ (.inr ⟨v,rfl⟩) (by rw[List.length_append,List.length_singleton];omega) fun ρ' h'=>?_;rw[List.append_assoc];exact hk ρ' h'
theorem jV{cenv:Env}{scope:Scope}{Xw:List Addr}(hsc:Sc cenv scope Xw){x y:Str}{px py py2:Pos}{iter1 iter2:PySem.Expr}{ifs:List PySem.Expr}(hx:aG scope x=true)(hy:aG scope y=true){ρ0:ai}(hx0:ρ0.all (fun p=>p.1 != x)=true)(hy0:ρ0.all (fun p=>p.1 != y)=true)(hxy:(x != y)=true)
  (p:V→Bool) (F:V→List V) {ks:List V→ai→Hp→Prop}:∀ (l:List V) (acc:List V) (ρ:ai),(∀ q∈ρ0,q∈ρ)→acc.length+(l.flatMap fun u=>if p u then F u else []).length≤1000→
   (∀ u∈l,Eb prog w K d hd cenv ((x,u)::ρ0) (gW ifs cenv) H (fun b H3=>b=p u∧H3=H) (fun J J=>False))→
   (∀ u∈l,p u=true→Ie prog w K d hd cenv ((x,u)::ρ0) (.Name y py) (eval iter2 cenv) H (fun l2 H3=>l2=F u∧H3=H) (fun J J=>False))→
   (∀ ρ',ks (acc++l.flatMap fun u=>if p u then F u else []) ρ' H)→
   eR prog w K d hd cenv Xw ⟨.Name x px,iter1,ifs,0⟩ (qD prog w K d hd cenv Xw (.Name y py2) [⟨.Name y py,iter2,[],0⟩]) l ks acc ρ H
 | []=>fun acc ρ hR hl hc hi hk=>by
  have:=hk ρ;rw[List.flatMap_nil,List.append_nil] at this;exact this
 | u::l=>fun acc ρ hR hl hc hi hk=>by
  rw[List.flatMap_cons,List.length_append] at hl;refine ad hsc hx (ρ':=(x,u)::ρ0) ?_ ?_
  ·intro q hq;rcases List.mem_cons.mp hq with e | hq
   ·exact .inl e
   ·exact .inr ⟨hR q hq,by simpa using (List.all_eq_true.mp hx0) q hq⟩
  ·intro A σ Z s Q E hA S Fr hQ hE;refine hc u List.mem_cons_self A σ Z s Q E hA S Fr (fun b s' σ' H' g' S' hk2=>hQ b s' σ' H' g' S' ?_) hE
   revert hk2;refine am fun eb eH=>?_
   rw[eH]
   have rest:∀ acc' ρ',(∀ q∈ρ0,q∈ρ')→acc'=acc++(if p u then F u else [])→eR prog w K d hd cenv Xw ⟨.Name x px,iter1,ifs,0⟩ (qD prog w K d hd cenv Xw (.Name y py2) [⟨.Name y py,iter2,[],0⟩]) l ks acc' ρ' H:=fun acc' ρ' hR' e=>by
    refine jV hsc hx hy hx0 hy0 hxy p F l acc' ρ' hR' (by rw[e,List.length_append];omega) (fun u hu=>hc u (List.mem_cons_of_mem _ hu)) (fun u hu=>hi u (List.mem_cons_of_mem _ hu)) fun ρ2=>?_;have:=hk ρ2;rw[List.flatMap_cons,←List.append_assoc,←e] at this;exact this
   rw[eb];cases hp:p u with
   | false=>
    dsimp only;refine rest acc _ (fun q hq=>List.mem_cons_of_mem _ hq) ?_;rw[hp];simp
   | true=>
    dsimp only;intro A σ Z s Q E hA S Fr hQ hE;refine hi u List.mem_cons_self hp A σ Z s Q E hA S Fr (fun v σ0 s0 H0 l2 s₂ g S0 hk3 ik=>hQ v σ0 s0 H0 l2 s₂ g S0 ?_ ik) hE
    revert hk3;refine am fun el eH0=>?_
    rw[el,eH0];rw[hp,if_pos rfl] at hl
    have hyb:((x,u)::ρ0).all (fun q=>q.1 != y)=true:=by
     rw[List.all_cons,hy0,Bool.and_true];exact hxy
    refine l9 hsc hy hyb (F u) acc _ (.inl rfl) (by omega) fun ρ' h'=>rest _ _ (fun q hq=>?_) (by rw[hp,if_pos rfl]);rcases h' with rfl | ⟨v,rfl⟩
    ·exact List.mem_cons_of_mem _ hq
    ·exact List.mem_cons_of_mem _ (List.mem_cons_of_mem _ hq)
variable{kx:X→Hp→Prop}
inductive zH (K:Frag) (cv:Value):Prop
 | mk (c:Addr) (o:Obj) (vs:Array Value) (file:Str) (tf:Tok) (flags:Int) (tg:Tok) (inF:Bool) (text:Int) (tt:Tok):cv=.ref c→K.lookup c=some o→o.cls=.type "code"→o.data=.fields vs→vs[11]? =some (.ref cP)→vs.getD 11 .none=.ref cP→vs.getD 18 .none=.str file tf→
  vs.getD 7 .none=.int flags tg→vs.getD 9 .none=.bool inF→vs.getD 10 .none=.int text tt→c≠cP→zH K cv
inductive BB (K:Frag) (pm:Value):Prop
 | mk:nsIn K mainGlobals "__name__"=some (some pm)→∀ (bm:Addr) (o:Obj),nsIn K mainGlobals "__builtins__"=some (some (.ref bm))→bm≠builtinsNs→bm≠mainGlobals→bm≠cP→K.lookup bm=some o→o.cls=.type "module"→o.dict=some builtinsNs→o.data=.plain→BB K pm
set_option tactic.hygienic true in
theorem mV{a b:Int}{c:Value}(l:List Value)(h:TriplesOk l)(hc:codeAmong pos (l++[rawInt a,rawInt b,c])=some cv):codeAmong pos l=some cv∨cv=c:=by
 fun_induction TriplesOk l with
 | case1=>
  simp only[List.nil_append,codeAmong,rawInt] at hc;split at hc
  ·exact .inr (Option.some.inj hc).symm
  ·exists hc
 | case2 a' t b' u x rest ih=>
  simp only[List.cons_append,codeAmong] at hc ⊢;split at hc
  ·rename_i q;rw[if_pos q];exact .inl hc
  ·rename_i q;rw[if_neg q];exact ih h hc
 | case3 l h1 h2=>exact h.elim
theorem St.tab(S:St K P A σ Z H s)(g:Go Z σ [] s σ s')(hσ:∀ a o,a∈σ→s.heap.get? a=some o→s'.heap.get? a=some o)(ht:pa s'.heap σ Z):St K P A σ Z H s':=by
 have hf:=g.keepFz (Z:=Z) fun J h=>nomatch h;refine⟨fun a o e=>S.old g (fun J h=>nomatch h) (S.kb a o e).1 (S.kb a o e).2 (S.kin a o e),S.kb,Bs.go S g (fun J h=>nomatch h),S.ks,S.kz,fun a h=>?_,S.len,S.nd,S.apart,fun r l e=>?_,g.gens.trans S.gens,S.fr.go g,ht,S.hx.tr rfl hf⟩
 ·refine af (fun o e=>?_) (S.zd a h);refine ab (fun o' e' J=>?_) (g.dom a o e);exact⟨o',e'⟩
 ·refine ab (fun a ea q=>?_) (S.hr r l e);exact⟨a,ea,q.tr hf (fun J J h=>h) fun o e=>hσ a o (List.mem_of_getElem? ea) e⟩
variable{body:PySem.Expr}{pm:Value}
theorem sK{M:Model}{Q:Value→Shared→Prop}{clos:List (Str × Addr)}(S:St K P A σ Z H s)(hgl:env.globals=mainGlobals)(hq:env.qual++"<lambda>"=aO)(hC:zH K env.code)(hm:BB K pm)(hcl:closureFor scope env=pure clos)(hQ:∀ f s' cv ctv,Go Z σ [] s σ s'→St K P A σ Z H s'→(∀ b o,b≠cP→s.heap.get? b=some o→s'.heap.get? b=some o)→s.heap.get? f=none→s.heap.objs.size≤f→s'.heap.get? f=some {cls:=.type "function",data:=.func (kla_fn "<lambda>" aO br body scope clos pm cv ctv)}→gB s'.heap σ Z cv→Q (.ref f) s'):
  wpAny M A (eval (.Lambda br body scope pos) env) Q E s:=by
 rw[arm_eval_Lambda];show wpAny M A (do let dv←evalAll [];let kdv←holding dv (evalAllOpt []);makeFunction "<lambda>" (env.qual++"<lambda>") br (.expr body) scope env dv kdv [] pos pos.line) Q E s;refine wpAny_bind (wpAny_pure (wpAny_bind (wpAny_holding (wpAny_pure ?_))));rw[hq];obtain⟨c,oc,cvs,file,tf,flags,tg,inF,text,tt,hcode,c1,c2,c3,c4,c5,c6,c7,c8,c9,c10⟩:=hC;have CH:CodeHd s.heap c cP:=⟨oc,cvs,file,tf,flags,tg,inF,text,tt,S.kin _ _ c1,c2,c3,c4,c5,c6,c7,c8,c9,c10⟩;obtain⟨ps,hP,hT,hA⟩:=S.tb;obtain⟨mg,hmg⟩:=S.bs.gl;obtain⟨hnm,bm,bo,b1,b2,b3,b4,b5,b6,b7,b8⟩:=hm;have e1:mg "__name__"=some pm:=dH S.kin hmg hnm;have hb:s.heap.BuiltinsAt mg cP:=⟨bm,bo,dH S.kin hmg b1,b2,b3,b4,S.kin _ _ b5,b6,b7,b8⟩;have hσt:∀ a,a∈σ→a≠cP:=fun a h q=>by have:=S.ks a h;rw[q] at this;exact absurd this (by decide)
 have hgt:mainGlobals≠cP:=by decide
 cases hca:codeAmong pos ps.toList with
 | some cv=>
  refine kla_makeFunctionHit hcl hgl hmg hcode CH hP hT hca hb fun ctv h' tk hk hsz=>?_;rw[e1];have hk2:∀ b o,s.heap.get? b=some o→(h'.push {cls:=.type "function",data:=.func (kla_fn "<lambda>" aO br body scope clos pm cv ctv)}).get? b=some o:=fun b o e=>Heap.get?_push_of_some _ (hk b o e)
  have g:Go Z σ [] s σ {s with heap:=h'.push {cls:=.type "function",data:=.func (kla_fn "<lambda>" aO br body scope clos pm cv ctv)},toks:=tk}:=
   .of ⟨fun b o e J J J=>hk2 b o e,fun b o e=>⟨o,hk2 b o e,fun h=>h⟩,⟨[],by walk_at "s",fun J h=>nomatch h⟩,rfl,rfl⟩
  refine hQ h'.objs.size _ cv ctv g (S.go g (fun J h=>nomatch h) fun a o J e=>hk2 a o e) (fun b o J e=>hk2 b o e) (Heap.get?_none_of_le hsz) hsz (Heap.get?_push_size _ rfl) ((hA pos cv hca).tr fun a o f e=>⟨hk2 a o e,f⟩)
 | none=>
  refine kla_makeFunction hcl hgl hmg hcode CH hP hT hca hgt hb fun c' ctv h' tk hx hge hlt hrec htb=>?_;rw[e1];have hsz:s.heap.objs.size≤h'.objs.size:=Nat.le_of_lt (Nat.lt_of_le_of_lt hge hlt);have hk2:∀ b o,b≠cP→s.heap.get? b=some o→(h'.push (kla_obj "<lambda>" aO br body scope clos pm c' ctv)).get? b=some o:=fun b o hb e=>Heap.get?_push_of_some _ (hx b o hb e);have htb2:(h'.push (kla_obj "<lambda>" aO br body scope clos pm c' ctv)).get? cP=some (tabObj (ps++ #[rawInt pos.line,rawInt pos.col,.ref c'])):=Heap.get?_push_of_some _ htb
  have g:Go Z σ [] s σ {s with heap:=h'.push (kla_obj "<lambda>" aO br body scope clos pm c' ctv),toks:=tk}:=by
   refine .of ⟨fun b o e h0 J J=>hk2 b o h0 e,fun b o e=>?_,⟨[],by walk_at "s",fun J h=>nomatch h⟩,rfl,rfl⟩
   by_cases hbt:b=cP
   ·subst hbt;rw[hP] at e;exists e;exact⟨_,htb2,fun h=>by exists h⟩
   ·exact⟨o,hk2 b o hbt e,fun h=>h⟩
  have hf:∀ a o,Fz σ Z a→s.heap.get? a=some o→(h'.push (kla_obj "<lambda>" aO br body scope clos pm c' ctv)).get? a=some o∧Fz σ Z a:=fun a o f e=>⟨hk2 a o (fun q=>by have:=f.lo;rw[q] at this;exact absurd this (by decide)) e,f⟩
  have hcn:gB (h'.push (kla_obj "<lambda>" aO br body scope clos pm c' ctv)) σ Z (.ref c'):=by
   revert hrec;refine DE fun cc oc' vs' t' q1 q2 q3 q4=>?_
   exists q1;have hnone:=Heap.get?_none_of_le (h:=s.heap) hge;refine⟨c',oc',vs',t',rfl,⟨Nat.le_trans S.size hge,fun q=>?_,fun q=>?_⟩,Heap.get?_push_of_some _ q2,q3,q4⟩
   ·refine af (fun o e=>?_) (S.sd q);rw[hnone] at e;exists e
   ·refine af (fun o e=>?_) (S.zd _ q);rw[hnone] at e;exists e
  refine hQ h'.objs.size _ (.ref c') ctv g (S.tab g (fun a o h e=>hk2 a o (hσt a h) e) ⟨_,htb2,?_,fun pos' cv' hc'=>?_⟩) hk2 (Heap.get?_none_of_le hsz) hsz (Heap.get?_push_size _ rfl) hcn
  ·rw[Array.toList_append];exact TriplesOk_snoc _ _ _ _ hT
  ·rw[Array.toList_append] at hc';rcases mV _ hT hc' with q | q
   ·exact(hA pos' cv' q).tr hf
   ·rw[q];exact hcn
variable{kx:X→Hp→Prop}
theorem St.adopt{f:Addr}{ob:Ob}(S0:St K P A σ Z H s0)(S:St K P A σ Z H s)(hk:∀ b o,b≠cP→s0.heap.get? b=some o→s.heap.get? b=some o)(hn:s0.heap.get? f=none)(hsz:s0.heap.objs.size≤f)(hf:s.heap.get? f=some o)(hnf:∀ vs,o.data≠ .fields vs)(hob:OR P s.heap (σ++[f]) Z ob f):St K P A (σ++[f]) Z (H++[ob]) s:=by
 have f8:378≤f:=Nat.le_trans S0.size hsz;have fσ:f∉σ:=fun q=>by refine af (fun o e=>?_) (S0.sd q);rw[hn] at e;exists e
 have fZ:f∉Z:=fun q=>by refine af (fun o e=>?_) (S0.zd _ q);rw[hn] at e;exists e
 have hfr:∀ a o,Fz σ Z a→s0.heap.get? a=some o→s.heap.get? a=some o∧Fz (σ++[f]) Z a:=fun a o q e=>⟨hk a o (fun h=>by have:=q.lo;rw[h] at this;exact absurd this (by decide)) e,q.lo,(fun m=>by
  rcases List.mem_append.mp m with m | m
  ·exact q.ns m
  ·rw[List.mem_singleton.mp m,hn] at e;exists e),q.nz⟩
 have hs:∀ (r:Nat) a,σ[r]? =some a→(σ++[f])[r]? =some a:=fun r a e=>by rw[List.getElem?_append_left (List.getElem?_eq_some_iff.mp e).1];exact e
 refine⟨S.kin,S.kb,S.bs,fun a h=>?_,S.kz,S.zd,by rw[List.length_append,List.length_append,S.len];rfl,?_,fun a h q=>?_,fun r l e=>?_,S.gens,S.fr,?_,S0.hx.tr rfl hfr⟩
 ·rcases List.mem_append.mp h with h | h
  ·exact S.ks a h
  ·rw[List.mem_singleton.mp h];exact f8
 ·refine List.nodup_append.mpr ⟨S.nd,List.nodup_cons.mpr ⟨List.not_mem_nil,List.nodup_nil⟩,fun a h b hb e=>?_⟩;rw[List.mem_singleton.mp hb] at e;exact fσ (e▸h)
 ·rcases List.mem_append.mp h with h | h
  ·exact S.apart a h q
  ·exact fZ ((List.mem_singleton.mp h)▸q)
 ·rcases Nat.lt_or_ge r H.length with hr | hr
  ·rw[List.getElem?_append_left hr] at e;refine ab (fun a e1 q=>?_) (S0.hr r l e);exact⟨a,hs _ _ e1,q.tr hfr hs fun o e=>hk a o (fun h=>by have:=S0.ks a (List.mem_of_getElem? e1);rw[h] at this;exact absurd this (by decide)) e⟩
  ·have hr2:r=H.length:=by
    have:=(List.getElem?_eq_some_iff.mp e).1;rw[List.length_append,List.length_singleton] at this;omega
   subst hr2;have:l=ob:=by simpa using e.symm
   subst this;exact⟨f,by rw[←S.len];simp,hob⟩
 ·obtain⟨ps,e,k1,q⟩:=S.tb;refine⟨ps,e,k1,fun pos cv hc=>?_⟩;obtain⟨c,oc,ws,t,e1,f1,ho1,hd1,hw⟩:=q pos cv hc;refine⟨c,oc,ws,t,e1,⟨f1.lo,fun m=>?_,f1.nz⟩,ho1,hd1,hw⟩;rcases List.mem_append.mp m with m | m
  ·exact f1.ns m
  ·rw[List.mem_singleton.mp m,hf] at ho1;exists ho1;exact hnf _ hd1
theorem tW(hq:env.qual++"<lambda>"=aO)(hC:zH K env.code)(hm:BB K pm)(hcl:closureFor scope env=pure [])(h:k (.ob H.length) (H++[.f none])):
  Ev prog w K d hd env ρ (eval (.Lambda br body scope pos) env) H k kx:=by
 intro A σ Z s Q E hA S F hQ hE;refine sK S F.glob hq hC hm hcl fun f s' cv ctv g S' hk hn hsz hf hcv=>?_;have g':Go Z σ [] s (σ++[f]) s':=⟨g.up,g.dom,⟨[f],rfl,fun a h=>by rw[List.mem_singleton.mp h];exact hn⟩,g.os,g.gens⟩;have S2:=St.adopt (ob:=.f none) S S' hk hn hsz hf (fun vs=>nofun) ⟨_,_,hf,rfl,rfl,rfl⟩;refine hQ _ s' (σ++[f]) (.ob H.length) _ g' S2 ?_ h;exact⟨f,rfl,by rw[←S.len];simp⟩
variable{kx:X→Hp→Prop}
noncomputable def BH(prog:Program)(w:World)(K:Frag)(d:Nat)(hd:Hd)(env:Env)(ρ:ai)(t:Sem Flow)(H:Hp)(k:Fl→Hp→Prop):Prop:=
 ∀ (A:Around) (σ Z:List Addr) (s:Shared) (Q:Flow→Shared→Prop) (E:Value→Shared→Prop),cF A d hd→St K w.params A σ (cN env++Z) H s→FR w.params σ (cN env++Z) env ρ s.heap→(∀ b∈cN env,b∉Z)→
  (∀ f s' σ' fl H',Go (cN env++Z) σ (own env) s σ' s'→(∀ A0:Around,gC A0 Z s'.heap→A0.handled=A.handled→St K w.params A0 σ' Z H' s')→zI w.params s'.heap σ' Z fl f→k fl H'→Q f s')→wpAny (model prog w) A t Q E s
variable{body:List Stmt}
theorem Ah{ns:List Str}(ho:K.lookup a=some o)(hdata:o.data=.func fd)(hcode:∃ c oc vs t,fd.code=.ref c∧K.lookup c=some oc∧oc.data=.fields vs∧vs[1]? =some (.str fd.qualname t))(hbody:fd.body=.stmts body)(hok:qS fd ns=true)(hlen:ys.length=ns.length)(hbind:Bd prog w K fd ar xs ns ys H)(h:∀ env:Env,Sc env fd.scope (own env)→env.code=fd.code→env.qual=fd.qualname++".<locals>."→BH prog w K d ⟨hd.h,some env⟩ env (ns.zip ys) (execs body env) H (fun fl H'=>k fl.val H')):
  Pr prog w K (d+1) hd xs (fun vs=>call (.ref a) (ar vs).pos (ar vs).kw) H k kx:=by
 intro A σ Z s vs0 Q E hA S hv0 hQ hE;refine so ho hdata hcode hbody hok hlen hbind hA S hv0 fun env s1 hsc hc hq hA1 S1 F gs cvt hap=>?_;refine h env hsc hc hq _ σ Z _ _ _ hA1 S1 F hap (fun f s' σ' fl H' g' S' hf hk'=>?_);have g:=cvt σ' s' g';exact hQ _ s' σ' fl.val H' g (S' A (S.fr.go g) rfl) (sm hf) hk'
variable{kx:X→Hp→Prop}
variable{kf:Fl→Hp→Prop}
theorem fC{st:Stmt}{r:List Stmt}(h:Ex prog w K d hd env ρ (exec st env) H (fun fl ρ' H'=>fl=.next∧BH prog w K d hd env ρ' (execs r env) H' kf) (fun J J J=>False)):BH prog w K d hd env ρ (execs (st::r) env) H kf:=by
 intro A σ Z s Q E hA S F hap hQ;refine wpAny_execs_cons (h A σ _ s _ _ hA S F (fun f s1 σ1 fl ρ1 H1 g1 S1 F1 hf hk=>?_) (fun J J J J J J J J J J q=>q.elim))
 revert hk;refine am fun q hk=>?_;obtain rfl:=q
 have e:f=.next:=hf;subst e;exact hk A σ1 Z s1 _ _ hA S1 F1 hap fun f s' σ' fl H' g'=>hQ f s' σ' fl H' (g1.seq g')
variable{r2:Nat}{ks:List Str}
theorem xM{th n1 n2:Str}{u1 u2:V}{body:PySem.Expr}(hs:swapsWithSole [.Attribute (.Name th p1) attr p2] (.Lambda br body scope p3) p4.line env=pure false)(hw:swappedStores [.Attribute (.Name th p1) attr p2] (.Lambda br body scope p3) env=pure none)(ht:assignEach [.Attribute (.Name th p1) attr p2] env=[(false,assign (.Attribute (.Name th p1) attr p2) env)])(hq:env.qual++"<lambda>"=aO)(hC:zH K env.code)(hm:BB K pm)(hcl:∀ c1 c2,env.cells.lookup n1=some c1→env.cells.lookup n2=some c2→closureFor scope env=pure [(n2,c2),(n1,c1)])(h1:(n1,u1)∈ρ)(h2:(n2,u2)∈ρ)(k1:env.kindOf n1=some .cell)(k2:env.kindOf n2=some .cell)(hth:(th,V.ob r)∈ρ)(kth:env.kindOf th=some .local)(hr:H[r]? =some (.f (some r2)))(hr2:H[r2]? =some (.n ks l))(hB:typeLookup (.type "function") attr=pure none)(hl:ks.length≤1000)(h:kf (.ret (.ob r)) (H.set r2 (.n (attr::ks) (.clo (kla_fn "<lambda>" aO br body scope [] pm .none .none) [n2,n1] [u2,u1]::l)))):
  BH prog w K d hd env ρ (execs [.Assign [.Attribute (.Name th p1) attr p2] (.Lambda br body scope p3) p4,.Return (some (.Name th p5)) p6] env) H kf:=by
 intro A σ Z s Q E hA S F hap hQ;have own1:env.locals∈cN env:=List.mem_cons_self
 have sub1:∀ b∈env.locals::Z,b∈cN env++Z:=fun b hb=>by
  rcases List.mem_cons.mp hb with rfl | hb
  ·exact List.mem_append_left _ own1
  ·exact List.mem_append_right _ hb
 have fr1:gC A (env.locals::Z) s.heap:=by
  obtain⟨fl,e,q⟩:=S.fr;refine⟨fl,e,fun en he=>?_⟩;obtain⟨q1,L,o,q2,q3,q4,q5⟩:=q en he;refine⟨q1,L,o,q2,?_,q4,q5⟩;rcases List.mem_append.mp q3 with q3 | q3
  ·rcases List.mem_cons.mp q3 with rfl | q3
   ·exact List.mem_cons_self
   ·refine af (fun q t=>?_) (List.mem_map.mp q3);obtain⟨x,c⟩:=q;revert t;refine am fun hm t=>?_;obtain rfl:=t;refine aV (fun v o' e' d'=>?_) (F.cex x c hm);rw[q4] at e';exists e';unfold cT at q5;rw[d'] at q5;exists q5
  ·exact List.mem_cons_of_mem _ q3
 have S1:St K w.params A σ (env.locals::Z) H s:=S.fewer sub1 fr1;obtain⟨m,hmn,hmq⟩:=F.ns;refine ab (fun tv htv hvr=>?_) (hmq th (.ob r) hth kth);refine ee (fun c1 v1 l1 i1 vr1=>?_) (F.cell n1 u1 h1 (.inl k1));refine ee (fun c2 v2 l2 i2 vr2=>?_) (F.cell n2 u2 h2 (.inl k2));refine wpAny_execs_cons (wpAny_Assign_stores (sK S1 F.glob hq hC hm (hcl c1 c2 l1 l2) fun f s2 cv ctv g S2 hk hn hsz hf hcv=>?_) hs hw);rw[ht];have hne8:∀ a,378≤a→a≠cP:=fun a h q=>by rw[q] at h;exact absurd h (by decide)
 have locZ:env.locals∈cN env++Z:=List.mem_append_left _ own1;have up2:∀ b o,378≤b→s.heap.get? b=some o→s2.heap.get? b=some o:=fun b o hb e=>hk b o (hne8 b hb) e;have hm2:s2.heap.Ns env.locals m:=let ⟨o,es,ep,e,rr⟩:=hmn;⟨o,es,ep,up2 _ o (S.kz _ locZ) e,rr⟩;have weak:∀ {u:V} {v:Value},VR w.params s.heap σ (cN env++Z) u v→VR w.params s2.heap σ (env.locals::Z) u v:=fun {u v} q=>VR.go g (fun J h=>nomatch h) u (VR.mono sub1 u q)
 have hcz:∀ x c,(x,c)∈env.cells→env.kindOf x=some .cell→Fz σ (env.locals::Z) c:=fun x c hmem hkx=>by
  have hown:c∈cN env:=List.mem_cons_of_mem _ (List.mem_map.mpr ⟨_,hmem,rfl⟩);refine⟨S.kz c (List.mem_append_left _ hown),fun q=>S.apart c q (List.mem_append_left _ hown),fun q=>?_⟩;rcases List.mem_cons.mp q with q | q
  ·exact(F.celZ x c hmem).2 q
  ·exact hap c hown q
 have f1:=hcz n1 c1 (mem_of_lookup l1) k1;have f2:=hcz n2 c2 (mem_of_lookup l2) k2;have j1:s2.heap.IsCell c1 (some v1):=let ⟨o,e,rr⟩:=i1;⟨o,up2 _ o f1.lo e,rr⟩;have j2:s2.heap.IsCell c2 (some v2):=let ⟨o,e,rr⟩:=i2;⟨o,up2 _ o f2.lo e,rr⟩;have ff:Fz σ (env.locals::Z) f:=⟨Nat.le_trans S1.size hsz,(fun q=>by refine af (fun o e=>?_) (S1.sd q);rw[hn] at e;exists e),(fun q=>by refine af (fun o e=>?_) (S1.zd _ q);rw[hn] at e;exists e)⟩
 have hclo:VR w.params s2.heap σ (env.locals::Z) (.clo (kla_fn "<lambda>" aO br body scope [] pm .none .none) [n2,n1] [u2,u1]) (.ref f):=by
  refine⟨f,_,_,[c2,c1],[v2,v1],rfl,ff,hf,rfl,rfl,rfl,rfl,rfl,rfl,rfl,fun i c x e1 e2=>?_,hcv,ak.two (weak vr2) (weak vr1)⟩
  match i with
  | 0=>exists e1;exists e2;exact⟨f2,j2⟩
  | 1=>exists e1;exists e2;exact⟨f1,j1⟩
  | n+2=>exists e1
 have setter:=jq (prog:=prog) (w:=w) (K:=K) (d:=d) (hd:=hd) (H:=H) (k:=fun u H3=>H3=H.set r2 (.n (attr::ks) (.clo (kla_fn "<lambda>" aO br body scope [] pm .none .none) [n2,n1] [u2,u1]::l))) (kx:=fun J J=>False) hr hr2 hB hl rfl;show wpAny _ A (assign (.Attribute (.Name th p1) attr p2) env (.ref f)) _ E s2;rw[assign_Attribute];refine wpAny_bind (wpAny_holding (wpAny_Name (wpAny_loadName_local F.kind kth hm2 htv ?_) (F.plain th _ hth).1));have run:=setter A σ (env.locals::Z) s2 [tv,.ref f] (fun J s'=>wpAny (model prog w) A (execs [.Return (some (.Name th p5)) p6] env) Q E s') E hA S2 (ak.two (weak hvr) hclo) (fun J s3 σ3 J H3 g3 S3 J hk3=>?_) (fun J J J J J J J J q=>q.elim)
 ·exact o6 run
 ·subst hk3
  have hm3:s3.heap.Ns env.locals m:=sR hm2 fun o e=>by
   refine ab (fun sl e' J=>?_) (g3.up env.locals o e (hne8 _ (S.kz _ locZ)) (fun q=>S.apart _ q locZ) (fun h=>nomatch h));exact⟨sl,e'⟩
  refine wpAny_execs_cons (wpAny_Return_some (wpAny_Name (wpAny_loadName_local F.kind kth hm3 htv ?_) (F.plain th _ hth).1));have gt:Go (env.locals::Z) σ [] s σ3 s3:=g.trans g3;refine hQ (.ret tv) s3 σ3 (.ret (.ob r)) _ ((gt.more sub1).wide fun J h=>nomatch h) (fun A0 hfr hh=>S3.fewer (fun b hb=>List.mem_cons_of_mem _ hb) hfr hh) ⟨tv,rfl,?_⟩ h;exact VR.mono (fun b hb=>List.mem_cons_of_mem _ hb) _ (VR.go g3 (fun J h=>nomatch h) _ (weak hvr))
variable{kx:X→Hp→Prop}
structure dz(K:Frag)(pm:Value):Prop where
 ok:bI K
 mb:BB K pm
 mkr:qC K 353 (av 26) (aj 26) (["tag","attrib"].map Str.ofString) fun fd=>(∀ vs:List Value,vs.length=2→bindArgs fd ⟨vs,[]⟩=pure ((["tag","attrib"].map Str.ofString).zip vs))∧zH K fd.code∧fd.qualname=Str.ofString "_law_make"
theorem Ch{ns:List Str}{Bf:FuncData→Prop}(f:qC K a body sc ns Bf)(hl:ys.length=ns.length)(hρ:ns.zip ys=ρ0)(hb:∀ fd,Bf fd→Bd prog w K fd ar xs ns ys H)(h:∀ (env:Env) (fd:FuncData),Bf fd→Sc env sc (own env)→env.code=fd.code→env.qual=fd.qualname++".<locals>."→BH prog w K d ⟨hd.h,some env⟩ env ρ0 (execs body env) H (fun fl H'=>k fl.val H')):
  Pr prog w K (d+1) hd xs (fun vs=>call (.ref a) (ar vs).pos (ar vs).kw) H k kx:=by
 obtain⟨o,fd,h1,h2,h3,h4,h5,h6,h7,h8,h9⟩:=f;subst h5 hρ;exact Ah h1 h2 h3 h4 h6 hl (hb fd h7) fun env hsc hc hq=>h env fd h7 hsc hc hq
theorem sr:typeLookup (.type "function") (Str.ofString "tag")=pure none:=by rw[typeLookup_type,builtinLookup_eq_fast];kernel_rfl
theorem jb:typeLookup (.type "function") (Str.ofString "tail")=pure none:=by rw[typeLookup_type,builtinLookup_eq_fast];kernel_rfl
theorem lI:typeLookup (.type "function") (Str.ofString "append")=pure none:=by rw[typeLookup_type,builtinLookup_eq_fast];kernel_rfl
theorem pC:typeLookup (.type "function") (Str.ofString "makeelement")=pure none:=by rw[typeLookup_type,builtinLookup_eq_fast];kernel_rfl
theorem lJ:typeLookup (.type "function") (Str.ofString "itertext")=pure none:=by rw[typeLookup_type,builtinLookup_eq_fast];kernel_rfl
theorem Cu{H':Hp}(h:k u H)(e:H'=H):k u H':=e▸h
@[irreducible] noncomputable def lW:PySem.Expr:=match (av 26)[6]? with
 | some (PySem.Stmt.Assign _ (PySem.Expr.Lambda _ b _ _) _)=>b
 | _=>PySem.Expr.Constant .none 0 default
@[irreducible] noncomputable def dm:Scope:=match (av 26)[6]? with
 | some (PySem.Stmt.Assign _ (PySem.Expr.Lambda _ _ s _) _)=>s
 | _=>⟨.function,[],false,false,[]⟩
noncomputable def lA(pm:Value)(kids attr:V):V:=.clo (kla_fn "<lambda>" aO br lW dm [] pm .none .none) (["kids","attrib"].map Str.ofString) [kids,attr]
noncomputable def eI:List Str:=["itertext","makeelement","append","tail","tag"].map Str.ofString
variable{kx:X→Hp→Prop}
theorem ue{p:List α→Prop}(vs:List α)(h:vs.length=n+1)(f:∀ a r,r.length=n→p (a::r)):p vs:=by
 cases vs with
 | nil=>exact(Nat.succ_ne_zero _ h.symm).elim
 | cons a r=>exact f a r (Nat.succ.inj h)
theorem jk{p:List α→Prop}(f:∀ a,p [a])(vs:List α)(h:vs.length=1):p vs:=ue vs h fun a r h=>List.eq_nil_of_length_eq_zero h▸f a
theorem gQ{p:List α→Prop}(f:∀ a b,p [a,b])(vs:List α)(h:vs.length=2):p vs:=ue vs h fun a r h=>jk (p:=fun r=>p (a::r)) (f a) r h
theorem yj{p:List α→Prop}(f:∀ a b c,p [a,b,c])(vs:List α)(h:vs.length=3):p vs:=ue vs h fun a r h=>gQ (p:=fun r=>p (a::r)) (f a) r h
theorem AP{p:List α→Prop}(f:∀ a b c d,p [a,b,c,d])(vs:List α)(h:vs.length=4):p vs:=ue vs h fun a r h=>yj (p:=fun r=>p (a::r)) (f a) r h
theorem CP{p:List α→Prop}(f:∀ a b c d e,p [a,b,c,d,e])(vs:List α)(h:vs.length=5):p vs:=ue vs h fun a r h=>AP (p:=fun r=>p (a::r)) (f a) r h
theorem EC{p:List α→Prop}(f:∀ a b c d e g,p [a,b,c,d,e,g])(vs:List α)(h:vs.length=6):p vs:=ue vs h fun a r h=>CP (p:=fun r=>p (a::r)) (f a) r h
theorem Ck(P:Params):gZ (KF P) 61 (av 5) (aj 5) (["text"].map Str.ofString):=
 ⟨Fn,Cb,by kernel_rfl,rfl,⟨60,Fm,_,_,rfl,by kernel_rfl,rfl,rfl⟩,rfl,rfl,by kernel_rfl,jk fun J=>by kernel_rfl,rfl,by kernel_rfl⟩
theorem Cl(P:Params):gZ (KF P) 68 (av 6) (aj 6) (["text"].map Str.ofString):=
 ⟨Fq,Cc,by kernel_rfl,rfl,⟨67,Fo,_,_,rfl,by kernel_rfl,rfl,rfl⟩,rfl,rfl,by kernel_rfl,jk fun J=>by kernel_rfl,rfl,by kernel_rfl⟩
theorem Cm(P:Params):gZ (KF P) 75 (av 7) (aj 7) (["text"].map Str.ofString):=
 ⟨Ft,Cd,by kernel_rfl,rfl,⟨74,Fs,_,_,rfl,by kernel_rfl,rfl,rfl⟩,rfl,rfl,by kernel_rfl,jk fun J=>by kernel_rfl,rfl,by kernel_rfl⟩
theorem Cn(P:Params):gZ (KF P) 82 (av 8) (aj 8) (["text"].map Str.ofString):=
 ⟨Fv,Ce,by kernel_rfl,rfl,⟨81,Fu,_,_,rfl,by kernel_rfl,rfl,rfl⟩,rfl,rfl,by kernel_rfl,jk fun J=>by kernel_rfl,rfl,by kernel_rfl⟩
theorem Co(P:Params):gZ (KF P) 89 (av 9) (aj 9) (["text"].map Str.ofString):=
 ⟨Fx,Cf,by kernel_rfl,rfl,⟨88,Fw,_,_,rfl,by kernel_rfl,rfl,rfl⟩,rfl,rfl,by kernel_rfl,jk fun J=>by kernel_rfl,rfl,by kernel_rfl⟩
theorem Cp(P:Params):gZ (KF P) 96 (av 10) (aj 10) (["text"].map Str.ofString):=
 ⟨FA,Cg,by kernel_rfl,rfl,⟨95,Fy,_,_,rfl,by kernel_rfl,rfl,rfl⟩,rfl,rfl,by kernel_rfl,jk fun J=>by kernel_rfl,rfl,by kernel_rfl⟩
theorem Cj(P:Params):gZ (KF P) 54 (av 4) (aj 4) (["write","elem"].map Str.ofString):=
 ⟨Fk,Ca,by kernel_rfl,rfl,⟨53,Fj,_,_,rfl,by kernel_rfl,rfl,rfl⟩,rfl,rfl,by kernel_rfl,gQ fun J J=>by kernel_rfl,rfl,by kernel_rfl⟩
theorem Au(P:Params):gZ (KF P) 315 (av 20) (aj 20) (["hand","text"].map Str.ofString):=
 ⟨Dh,zn,by kernel_rfl,rfl,⟨314,Dg,_,_,rfl,by kernel_rfl,rfl,rfl⟩,rfl,rfl,by kernel_rfl,gQ fun J J=>by kernel_rfl,rfl,by kernel_rfl⟩
theorem Av(P:Params):gZ (KF P) 322 (av 21) (aj 21) (["hand","cell"].map Str.ofString):=
 ⟨Dj,zo,by kernel_rfl,rfl,⟨321,Di,_,_,rfl,by kernel_rfl,rfl,rfl⟩,rfl,rfl,by kernel_rfl,gQ fun J J=>by kernel_rfl,rfl,by kernel_rfl⟩
theorem Aw(P:Params):gZ (KF P) 329 (av 22) (aj 22) (["lead","size"].map Str.ofString):=
 ⟨Dl,zp,by kernel_rfl,rfl,⟨328,Dk,_,_,rfl,by kernel_rfl,rfl,rfl⟩,rfl,rfl,by kernel_rfl,gQ fun J J=>by kernel_rfl,rfl,by kernel_rfl⟩
theorem Ax(P:Params):gZ (KF P) 334 (av 23) (aj 23) (["cells"].map Str.ofString):=
 ⟨Dn,zq,by kernel_rfl,rfl,⟨333,Dm,_,_,rfl,by kernel_rfl,rfl,rfl⟩,rfl,rfl,by kernel_rfl,jk fun J=>by kernel_rfl,rfl,by kernel_rfl⟩
theorem Ay(P:Params):gZ (KF P) 339 (av 24) (aj 24) (["told"].map Str.ofString):=
 ⟨Dp,zr,by kernel_rfl,rfl,⟨338,Do,_,_,rfl,by kernel_rfl,rfl,rfl⟩,rfl,rfl,by kernel_rfl,jk fun J=>by kernel_rfl,rfl,by kernel_rfl⟩
theorem Az(P:Params):gZ (KF P) 346 (av 25) (aj 25) (["head","hang","ups","write","bare","ends"].map Str.ofString):=
 ⟨Dr,zt,by kernel_rfl,rfl,⟨345,Dq,_,_,rfl,by kernel_rfl,rfl,rfl⟩,rfl,rfl,by kernel_rfl,EC fun J J J J J J=>by kernel_rfl,rfl,by kernel_rfl⟩
theorem AA(P:Params):gZ (KF P) 353 (av 26) (aj 26) (["tag","attrib"].map Str.ofString):=
 ⟨AZ,vL,by kernel_rfl,rfl,⟨352,ut,_,_,rfl,by kernel_rfl,rfl,rfl⟩,rfl,rfl,by kernel_rfl,gQ fun J J=>by kernel_rfl,rfl,by kernel_rfl⟩
theorem AB(P:Params):gZ (KF P) 360 (av 27) (aj 27) (["things","letter","hang","head","ends"].map Str.ofString):=
 ⟨Dt,zu,by kernel_rfl,rfl,⟨359,Ds,_,_,rfl,by kernel_rfl,rfl,rfl⟩,rfl,rfl,by kernel_rfl,CP fun J J J J J=>by kernel_rfl,rfl,by kernel_rfl⟩
theorem AC(P:Params):gZ (KF P) 367 (av 28) (aj 28) (["thing"].map Str.ofString):=
 ⟨Dv,zv,by kernel_rfl,rfl,⟨366,Du,_,_,rfl,by kernel_rfl,rfl,rfl⟩,rfl,rfl,by kernel_rfl,jk fun J=>by kernel_rfl,rfl,by kernel_rfl⟩
theorem AD(P:Params):gZ (KF P) 372 (av 29) (aj 29) (["place","ups","kept","tails"].map Str.ofString):=
 ⟨Dx,zw,by kernel_rfl,rfl,⟨371,Dw,_,_,rfl,by kernel_rfl,rfl,rfl⟩,rfl,rfl,by kernel_rfl,AP fun J J J J=>by kernel_rfl,rfl,by kernel_rfl⟩
theorem AE(P:Params):gZ (KF P) 377 (av 30) (aj 30) (["script"].map Str.ofString):=
 ⟨Dz,zx,by kernel_rfl,rfl,⟨376,Dy,_,_,rfl,by kernel_rfl,rfl,rfl⟩,rfl,rfl,by kernel_rfl,jk fun J=>by kernel_rfl,rfl,by kernel_rfl⟩
theorem Ai(P:Params):gZ (KF P) 113 (dw 12 1) (bT 12 1) (["self","ws"].map Str.ofString):=
 ⟨CT,zc,by kernel_rfl,rfl,⟨112,CS,_,_,rfl,by kernel_rfl,rfl,rfl⟩,rfl,rfl,by kernel_rfl,gQ fun J J=>by kernel_rfl,rfl,by kernel_rfl⟩
theorem Aj(P:Params):gZ (KF P) 120 (dw 12 2) (bT 12 2) (["self"].map Str.ofString):=
 ⟨CV,ze,by kernel_rfl,rfl,⟨119,CU,_,_,rfl,by kernel_rfl,rfl,rfl⟩,rfl,rfl,by kernel_rfl,jk fun J=>by kernel_rfl,rfl,by kernel_rfl⟩
theorem Ak(P:Params):gZ (KF P) 127 (dw 12 3) (bT 12 3) (["self","tabsize"].map Str.ofString):=
 ⟨CX,zf,by kernel_rfl,rfl,⟨126,CW,_,_,rfl,by kernel_rfl,rfl,rfl⟩,rfl,rfl,by kernel_rfl,gQ fun J J=>by kernel_rfl,rfl,by kernel_rfl⟩
theorem Am(P:Params):gZ (KF P) 148 (dw 12 6) (bT 12 6) (["self","other"].map Str.ofString):=
 ⟨CZ,zg,by kernel_rfl,rfl,⟨147,CY,_,_,rfl,by kernel_rfl,rfl,rfl⟩,rfl,rfl,by kernel_rfl,gQ fun J J=>by kernel_rfl,rfl,by kernel_rfl⟩
theorem Ap(P:Params):gZ (KF P) 245 (dw 18 7) (bT 18 7) (["self","name"].map Str.ofString):=
 ⟨C9,zj,by kernel_rfl,rfl,⟨244,C8,_,_,rfl,by kernel_rfl,rfl,rfl⟩,rfl,rfl,by kernel_rfl,gQ fun J J=>by kernel_rfl,rfl,by kernel_rfl⟩
theorem Ar(P:Params):gZ (KF P) 270 (dw 18 11) (bT 18 11) (["self"].map Str.ofString):=
 ⟨Dd,zl,by kernel_rfl,rfl,⟨269,Dc,_,_,rfl,by kernel_rfl,rfl,rfl⟩,rfl,rfl,by kernel_rfl,jk fun J=>by kernel_rfl,rfl,by kernel_rfl⟩
theorem An(P:Params):qC (KF P) 200 (dw 18 0) (bT 18 0) (["self","headers"].map Str.ofString) fun fd=>w8 (KF P) fd 1 [] 1 (["self","headers"].map Str.ofString) (fun vs=>vs++[.none])∧w8 (KF P) fd 2 [] 2 (["self","headers"].map Str.ofString) id:=
 ⟨C5,zh,by kernel_rfl,rfl,⟨199,C4,_,_,rfl,by kernel_rfl,rfl,rfl⟩,rfl,rfl,by kernel_rfl,⟨fun S=>jk fun J=>by kernel_rfl,fun S=>gQ fun J J=>by kernel_rfl⟩,rfl,by kernel_rfl⟩
theorem Ao(P:Params):qC (KF P) 207 (dw 18 1) (bT 18 1) (["self","value","name"].map Str.ofString) fun fd=>w8 (KF P) fd 2 ["name"] 3 (["self","value","name"].map Str.ofString) id:=
 ⟨C7,zi,by kernel_rfl,rfl,⟨206,C6,_,_,rfl,by kernel_rfl,rfl,rfl⟩,rfl,rfl,by kernel_rfl,fun S=>yj fun J J J=>by kernel_rfl,rfl,by kernel_rfl⟩
theorem Aq(P:Params):qC (KF P) 253 (dw 18 8) (bT 18 8) (["self","name","default"].map Str.ofString) fun fd=>w8 (KF P) fd 3 [] 3 (["self","name","default"].map Str.ofString) id:=
 ⟨Db,zk,by kernel_rfl,rfl,⟨252,Da,_,_,rfl,by kernel_rfl,rfl,rfl⟩,rfl,rfl,by kernel_rfl,fun S=>yj fun J J J=>by kernel_rfl,rfl,by kernel_rfl⟩
theorem At(P:Params):qC (KF P) 303 (dw 18 16) (bT 18 16) (["self","_name","_value","_params"].map Str.ofString) fun fd=>Bz (KF P) fd 3 [] 3 (["self","_name","_value","_params"].map Str.ofString) none:=
 ⟨Df,zm,by kernel_rfl,rfl,⟨302,De,_,_,rfl,by kernel_rfl,rfl,rfl⟩,rfl,rfl,by kernel_rfl,fun S=>yj fun v0 v1 v2=>⟨fun D=>pure ((["self","_name","_value","_params"].map Str.ofString).zip [v0,v1,v2,.ref D]),by kernel_rfl,fun D=>by kernel_rfl⟩,rfl,by kernel_rfl⟩
theorem Ci(P:Params):qC (KF P) 47 (av 3) (aj 3) (["parent","tag","attrib","extra"].map Str.ofString) fun fd=>Bz (KF P) fd 3 ["tail"] 4 (["parent","tag","attrib","extra"].map Str.ofString) (some "tail"):=
 ⟨Fi,B9,by kernel_rfl,rfl,⟨46,Fh,_,_,rfl,by kernel_rfl,rfl,rfl⟩,rfl,rfl,by kernel_rfl,fun S=>AP fun v0 v1 v2 v3=>⟨fun D=>(forIn [(Str.ofString "tail",v3)] PUnit.unit (fun p J=>nsSet D p.1 p.2 >>= fun J=>pure (ForInStep.yield PUnit.unit)) >>= fun J=>pure ((["parent","tag","attrib","extra"].map Str.ofString).zip [v0,v1,v2,.ref D])),by kernel_rfl,fun D=>by simp only[List.forIn_cons,List.forIn_nil,bind_assoc,pure_bind];rfl⟩,rfl,by kernel_rfl⟩
theorem FO(P:Params):bI (KF P) where
 blt:=by unfold lw;repeat (first | exact mU | refine bQ ⋯ ?_)
 gl:=by unfold ss;repeat (first | exact mU | refine bQ ⋯ ?_)
 fn:=by exact bQ (Ck P) <| bQ (Cl P) <| bQ (Cm P) <| bQ (Cn P) <| bQ (Co P) <| bQ (Cp P) <| bQ (Cj P) <| bQ (Au P) <| bQ (Av P) <| bQ (Aw P) <| bQ (Ax P) <| bQ (Ay P) <| bQ (Az P) <| bQ (AA P) <| bQ (AB P) <| bQ (AC P) <| bQ (AD P) <| bQ (AE P) mU
 ws:=⟨⟨(Str.ofString "Whitespace"),(Str.ofString "Whitespace"),[.type "object"],[],[],none,none,none,none,some (sV "Whitespace" 355),some (sV "Whitespace" 363),some (.bool true),by kernel_rfl⟩,by kernel_rfl⟩
 wsNo:=by repeat (first | exact mU | refine bQ ⋯ ?_)
 wsM:=by repeat (first | exact mU | refine bQ ⋯ ?_)
 wsF:=by exact bQ (Ai P) <| bQ (Aj P) <| bQ (Ak P) <| bQ (Am P) mU
 wsS:=⟨by kernel_rfl,⟨368,by kernel_rfl⟩,⟨369,by kernel_rfl⟩⟩
 hs:=⟨⟨(Str.ofString "Headers"),(Str.ofString "Headers"),[.type "object"],[],[],none,none,none,none,some (sV "Headers" 561),some (sV "Headers" 569),some (.bool true),by kernel_rfl⟩,by kernel_rfl⟩
 hsNo:=by repeat (first | exact mU | refine bQ ⋯ ?_)
 hsM:=by repeat (first | exact mU | refine bQ ⋯ ?_)
 hsF:=by exact bQ (Ap P) <| bQ (Ar P) mU
 hsInit:=An P
 hsConv:=Ao P
 hsGet:=Aq P
 hsAdd:=At P
 sub:=Ci P
 pats:=⟨⟨(match C1.data with | .fields vs=>vs | _=> #[]),171,(match C0.data with | .seq ws _=>ws | _=> #[]),0,by kernel_rfl,by kernel_rfl,by kernel_rfl,by kernel_rfl,by kernel_rfl,by kernel_rfl⟩,⟨(match C3.data with | .fields vs=>vs | _=> #[]),176,(match C2.data with | .seq ws _=>ws | _=> #[]),0,by kernel_rfl,by kernel_rfl,by kernel_rfl,by kernel_rfl,by kernel_rfl,by kernel_rfl⟩⟩
 keep:=⟨by kernel_rfl,by kernel_rfl⟩
theorem FP(P:Params):BB (KF P) (sV "law_tc0090_01" 718):=⟨by kernel_rfl,4,o4,by kernel_rfl,by decide,by decide,by decide,by kernel_rfl,rfl,rfl,rfl⟩
theorem FE(P:Params):zH (KF P) (.ref 352):=⟨352,ut,(match ut.data with | .fields vs=>vs | _=> #[]),fF,784,3,0,true,276,0,rfl,by kernel_rfl,rfl,rfl,by kernel_rfl,by kernel_rfl,by kernel_rfl,by kernel_rfl,by kernel_rfl,by kernel_rfl,by decide⟩
theorem Em(P:Params):dz (KF P) (sV "law_tc0090_01" 718):=⟨FO P,FP P,⟨AZ,vL,by kernel_rfl,rfl,⟨352,ut,_,_,rfl,by kernel_rfl,rfl,rfl⟩,rfl,rfl,by kernel_rfl,⟨gQ fun J J=>by kernel_rfl,FE P,by kernel_rfl⟩,rfl,by kernel_rfl⟩⟩
section
variable{prog:Program}{w:World}{K:Type}[DecidableEq K]{knd:KeyKind prog w K}{A:Around}{E:Value→Shared→Prop}{s:Shared}
variable{d:Addr}{key:Value}
set_option tactic.hygienic true in
theorem rC{h:Int}(t:wpAny (model prog w) A (dictSetHashed d key h v) Q E s):wpAny (model prog w) A (dictPut d h key v) Q E s:=by
 intro Γ p hΓ;have q:=t Γ p hΓ;unfold dictSetHashed at q;unfold dictPut;simp only[Sem.wp_bind',Sem.wp_holding] at q ⊢;refine Sem.wp_mono _ _ _ (fun r p' s' q'=>?_) (fun J J J e=>e) _ _ q;cases r with
 | none=>
  dsimp only at q' ⊢;unfold updateDictKeys lookBehind at q' ⊢;simp only[Sem.wp_bind'] at q' ⊢;obtain⟨o,ho,q3⟩:=(q':Sem.wp (model prog w) Γ (loadPart d (keyPart key)) _ _ p' s');refine⟨o,ho,?_⟩;change Sem.wp (model prog w) Γ (match o.data with | .dict _ _=>_ | _=>_) _ _ p' s' at q3 ⊢;cases hod:o.data with
  | dict es n=>
   rw[hod] at q3;simp only[Sem.wp_bind'] at q3 ⊢;obtain⟨c2,o3,ho3,q5⟩:=q3;exact⟨c2,o3,ho3,q5⟩
  | _=>rw[hod] at q3;exact q3
 | some i=>
  dsimp only at q' ⊢;unfold updateDict at q' ⊢;simp only[Sem.wp_bind'] at q' ⊢;obtain⟨o,ho,q3⟩:=(q':Sem.wp (model prog w) Γ (loadPart d (keyPart key)) _ _ p' s');refine⟨o,ho,?_⟩;change Sem.wp (model prog w) Γ (match o.data with | .dict _ _=>_ | _=>_) _ _ p' s' at q3 ⊢;cases hod:o.data with
  | dict es n=>
   rw[hod] at q3;simp only[Sem.wp_bind'] at q3 ⊢;obtain⟨c2,o3,ho3,q5⟩:=q3;refine⟨c2,o3,ho3,?_⟩;change Sem.wp (model prog w) Γ (match o3.data with | .dict _ _=>_ | _=>_) _ _ p' _ at q5 ⊢;cases h3:o3.data with
   | dict es3 n3=>
    rw[h3] at q5;dsimp only at q5 ⊢;split at q5
    ·rename_i hg;rw[if_pos hg];exact q5
    ·rename_i hg;rw[if_neg hg];exact q5
   | _=>rw[h3] at q5;exact q5
  | _=>rw[hod] at q3;exact q3
theorem uI{kvs:List (K × Value)}{k:K}(hkey:knd.is k key=true)(hm:s.heap.DictOf knd d kvs)(hQ:∀ h',h'.DictOf knd d (stored kvs k v)→Heap.SameBut d s.heap h'→Q () {s with heap:=h'})(hsz:kvs.length≤sizeLine):
  wpAny (model prog w) A (dictPut d (knd.hash k) key v) Q E s:=rC (wpAny_dictSetHashed_pairs hkey hm hQ hsz)
end
theorem uJ{M:Model}{f:α→PUnit→Sem (ForInStep PUnit)}{Q:PUnit→Shared→Prop}{es:Array α}(hf:∀ e∈es,f e PUnit.unit=pure (ForInStep.yield PUnit.unit))(h:Q PUnit.unit s):wpAny M A (forIn es PUnit.unit f) Q E s:=by
 rw[←Array.forIn_toList]
 have:∀ l:List α,(∀ e∈l,f e PUnit.unit=pure (ForInStep.yield PUnit.unit))→wpAny M A (forIn l PUnit.unit f) Q E s:=by
  intro l
  induction l with
  | nil=>intro J;exact wpAny_pure h
  | cons a l ih=>
   intro hl;rw[List.forIn_cons,hl a List.mem_cons_self];exact wpAny_bind (wpAny_pure (ih fun e he=>hl e (List.mem_cons_of_mem _ he)))
 exact this _ fun e he=>hf e (Array.mem_toList_iff.mp he)
theorem nE{d o:Addr}{more:List (Str × Value)}(hdo:d≠o)(hoS:(o==sysModules)=false)(hd:s.heap.DictOf (strKind prog w) d kvs)(ho:s.heap.DictOf (strKind prog w) o more)(hl:kvs.length+more.length≤sizeLine)(hQ:∀ h',h'.DictOf (strKind prog w) d (merged kvs more)→Heap.SameBut d s.heap h'→Q () {s with heap:=h'}):wpAny (model prog w) A (mergeMapping d (.ref o) false) Q E s:=by
 obtain⟨od,esd,epd,hod,hcd,hdd,hkd,hpd,hnd⟩:=id hd;obtain⟨oo,eso,epo,hoo,hco,hdo',hko,hpo,hno⟩:=id ho;have hT:s.TypeIs (.ref o) "dict":=⟨oo,hoo,hco.1⟩;have hlen:more.length=eso.size:=by rw[←hpo.length];simp
 unfold mergeMapping;refine wpAny_bind (wpAny_isInstance (T:="dict") (b:=true) hT isSubtype_dict_dict ?_);rw[if_pos rfl];refine wpAny_bind (wpAny_specialOf (name:=Str.ofString "__iter__") hT PySem.F.slot_dict_iter.lookup (wpAny_bind (wpAny_pure ?_)));have hsys:¬ ((o==sysModules)=true):=by rw[hoS];exact Bool.false_ne_true
 have rest:wpAny (model prog w) A (do
   let l←dictEntries o
   let epoch←dictEpoch o
   forIn (List.range l.size) PUnit.unit fun i (_:PUnit)=>(do
     let l'←dictEntries o
     match l'[i]? with
      | some e=>do
       holding [e.key,e.val] (dictPut d e.hash e.key e.val)
       let ep'←dictEpoch o
       if (ep' != epoch)=true then do
         (unsupported "dict.changed-during-merge":Sem PUnit)
         pure (ForInStep.yield PUnit.unit)
        else pure (ForInStep.yield PUnit.unit)
      | _=>do
       (unsupported "dict.changed-during-merge":Sem PUnit)
       pure (ForInStep.yield PUnit.unit):Sem (ForInStep PUnit))
   pure ()) Q E s:=by
  refine wpAny_bind (wpAny_dictEntries hoo hdo' (wpAny_bind (wpAny_dictEpoch hoo hdo' (wpAny_bind ?_))))
  refine wpAny_forIn_list _ (fun rest J s'=>∃ h' i,s'={s with heap:=h'}∧rest=(List.range eso.size).drop i∧i≤eso.size∧h'.DictOf (strKind prog w) d (merged kvs (more.take i))∧h'.get? o=some oo∧Heap.SameBut d s.heap h')
   _ ?_ ?_ _ _ ⟨s.heap,0,rfl,by simp,Nat.zero_le _,by simpa [merged] using hd,hoo,Heap.SameBut.refl _ _⟩
  ·rintro x rest b s' ⟨h',i,rfl,hr,hi,hd',hoo',hs'⟩
   have hlt:i < eso.size:=by
    rcases Nat.lt_or_ge i eso.size with h | h
    ·exact h
    ·rw[List.drop_eq_nil_of_le (by simpa using h)] at hr;cases hr
   obtain⟨rfl,hrest⟩:x=i∧rest=(List.range eso.size).drop (i+1):=by
    rw[List.drop_eq_getElem_cons (by simpa using hlt)] at hr;injection hr with h1 h2
    exact⟨by simpa using h1,h2⟩
   refine wpAny_bind (wpAny_dictEntries hoo' hdo' ?_);rw[Array.getElem?_eq_getElem hlt];obtain⟨kv,hkv⟩:∃ kv,more[x]? =some kv:=⟨more[x]'(by rw[hlen];exact hlt),List.getElem?_eq_getElem _⟩;obtain⟨k,v⟩:=kv;obtain⟨hkey,hval⟩:=hpo.get? (e:=eso[x]) (by simp[hlt]) hkv;obtain⟨k',hkey',hhash⟩:=hko eso[x] (Array.getElem_mem hlt);obtain rfl:k'=k:=(strKind prog w).inj _ _ _ hkey' hkey
   have hmx:(merged kvs (more.take x)).length≤sizeLine:=by
    have e1:=merged_length_le kvs (more.take x);have e2:(more.take x).length≤more.length:=by rw[List.length_take];omega
    omega
   show wpAny _ _ (holding [eso[x].key,eso[x].val] (dictPut d eso[x].hash eso[x].key eso[x].val) >>= _) _ _ _;rw[hhash,hval];refine wpAny_bind (wpAny_holding (uI hkey hd' (fun h'' hd'' hs''=>?_) hmx));have hoo'':h''.get? o=some oo:=(hs''.2 o (Ne.symm hdo)).trans hoo';refine wpAny_bind (wpAny_dictEpoch hoo'' hdo' ?_);rw[if_neg (by simp)];exact wpAny_pure ⟨h'',x+1,rfl,hrest,hlt,by rw[merged_take_succ kvs more x (k',v) hkv];exact hd'',hoo'',hs'.trans hs''⟩
  ·rintro b s' ⟨h',i,rfl,hr,hi,hd',hoo',hs'⟩
   have hin:i=eso.size:=by
    rcases Nat.lt_or_ge i eso.size with h | h
    ·rw[List.drop_eq_getElem_cons (by simpa using h)] at hr;cases hr
    ·exact Nat.le_antisymm hi h
   refine wpAny_pure (hQ h' ?_ hs');rw[hin,←hlen,List.take_length] at hd';exact hd'
 rw[show(some (Value.builtin "dict.__iter__")==some (Value.builtin "dict.__iter__"))=true from by decide];dsimp only;rw[if_neg hsys];simp only[Bool.false_eq_true,if_false];refine wpAny_bind (wpAny_dictEntries hod hdd ?_);split
 ·refine wpAny_bind (wpAny_dictEntries hoo hdo' (wpAny_bind (uJ (fun e he=>?_) rest)));obtain⟨k,hk,_⟩:=hko e he
  have:∃ t,e.key=.str k t:=by
   have hk':Value.isStrOf k e.key=true:=hk
   revert hk'
   cases e.key with
   | str y t=>intro hk';exact⟨t,by rw[show y=k from by simpa [Value.isStrOf] using hk']⟩
   | _=>intro hk';cases hk'
  obtain⟨t,ht⟩:=this;rw[ht]
 ·exact rest
variable{kx:X→Hp→Prop}
variable{y:Str}
theorem vE(h1:(x1,V.dct ks l)∈ρ)(h2:(x2,V.dct [y] [u])∈ρ)(hl:ks.length≤1000)(k1:env.kindOf x1=some .local)(k2:env.kindOf x2=some .local)(h:k (.dct (io ks l y u).1 (io ks l y u).2) H):Ev prog w K d hd env ρ (eval (.Dict [none,none] [.Name x1 p1,.Name x2 p2] pos) env) H k kx:=by
 intro A σ Z s Q E hA S F hQ hE;show wpAny _ A (do standAt pos;dictDisplay [(none,do let x←eval (.Name x1 p1) env;standAt pos;pure x),(none,do let x←eval (.Name x2 p2) env;standAt pos;pure x)]) Q E s;refine wpAny_bind (wpAny_standAt ?_);unfold dictDisplay;simp only[List.forIn_cons,List.forIn_nil,List.isEmpty_nil,if_true,pure_bind,bind_assoc];have gp:=Go.push Z σ s {cls:=.type "dict",data:=.dict #[]} s.toks;have Sp:=S.push {cls:=.type "dict",data:=.dict #[]} s.toks;have Fp:=F.go S gp;have fd:Fz σ Z s.heap.objs.size:=S.fresh;generalize hs1:({s with heap:=s.heap.push {cls:=.type "dict",data:=.dict #[]},toks:=s.toks}:Shared)=s1 at gp Sp Fp;have hd0:s1.heap.get? s.heap.objs.size=some {cls:=.type "dict",data:=.dict #[]}:=by rw[←hs1];exact Heap.get?_push_size _ rfl
 refine wpAny_bind (wpAny_alloc ?_);rw[show({s with heap:=s.heap.push {cls:=.type "dict",data:=.dict #[]}}:Shared)=s1 from hs1];generalize hD:s.heap.objs.size=D at fd hd0 ⊢;have hDn:s.heap.get? D=none:=Heap.get?_none_of_le (by rw[hD];exact Nat.le_refl _);obtain⟨m,hm,hmq⟩:=F.ns;refine ab (fun v1 hmv1 hv1=>?_) (hmq x1 _ h1 k1);refine ab (fun v2 hmv2 hv2=>?_) (hmq x2 _ h2 k2);obtain⟨a1,vs1,rfl,f1,hr1,hvs1⟩:=hv1;obtain⟨a2,vs2,rfl,f2,hr2,hvs2⟩:=hv2;obtain⟨v20,rfl,hvu⟩:=hvs2.inv1;obtain⟨o1,ho1⟩:=hr1.ex;obtain⟨o2,ho2⟩:=hr2.ex;have up1:∀ b o,s.heap.get? b=some o→s1.heap.get? b=some o:=fun b o e=>by rw[←hs1];exact Heap.get?_push_of_some _ e
 have ne1:D≠a1:=fun q=>by rw[←q,hDn] at ho1;exists ho1
 have ne2:D≠a2:=fun q=>by rw[←q,hDn] at ho2;exists ho2
 have nsup:∀ {h':Heap},(∀ b o,s.heap.get? b=some o→h'.get? b=some o)→h'.Ns env.locals m:=fun up=>let ⟨o,es,ep,e,r⟩:=hm;⟨o,es,ep,up _ o e,r⟩;have hdn:cZ w.params s1.heap D [] []:=⟨_, #[],0,hd0,⟨rfl,rfl,rfl⟩,rfl,fun e he=>(nomatch (Array.mem_toList_iff.mpr he:e∈([]:List DictEntry))),trivial,List.nodup_nil⟩;have hlen1:ks.length=vs1.length:=by obtain⟨_,_,_,_,_,_,_,hp,_⟩:=id hr1;exact eK hp
 have hnd1:ks.Nodup:=by obtain⟨_,_,_,_,_,_,_,_,hn⟩:=id hr1;exact hn
 refine wpAny_bind (wpAny_holding (wpAny_bind (wpAny_Name (wpAny_loadName_local F.kind k1 (nsup up1) hmv1 (wpAny_bind (wpAny_standAt (wpAny_pure ?_)))) (F.plain x1 _ h1).1)));have hr1':=hr1.at' fun o e=>up1 a1 o e;refine wpAny_bind (wpAny_onRaise (wpAny_tryCatch (wpAny_onRaise (wpAny_holding (nE (kvs:=[]) ne1 (k9 f1.lo) (hdn.of (prog:=prog) (w:=w)) (hr1'.of (prog:=prog) (w:=w)) ?_ fun h2' hd2 hsb2=>?_)))))
 ·rw[List.length_nil,List.length_zip];exact Nat.le_trans (by omega) (by decide:(1000:Nat)≤sizeLine)
 have up2:∀ b o,s.heap.get? b=some o→h2'.get? b=some o:=fun b o e=>(hsb2.2 b (fun q=>by rw[q,hDn] at e;exists e)).trans (up1 b o e);rw[merged_nil_of_nodup _ (by rw[ij hlen1];exact hnd1)] at hd2;refine wpAny_bind (wpAny_holding (wpAny_bind (wpAny_Name (wpAny_loadName_local (s:={s1 with heap:=h2'}) F.kind k2 (nsup up2) hmv2 (wpAny_bind (wpAny_standAt (wpAny_pure ?_)))) (F.plain x2 _ h2).1)));have hr2':=hr2.at' fun o e=>up2 a2 o e;refine wpAny_bind (wpAny_onRaise (wpAny_tryCatch (wpAny_onRaise (wpAny_holding (nE (s:={s1 with heap:=h2'}) ne2 (k9 f2.lo) hd2 (hr2'.of (prog:=prog) (w:=w)) ?_ fun h3' hd3 hsb3=>?_)))))
 ·rw[List.length_zip,List.length_zip];exact Nat.le_trans (by walk_at "s";omega) (by decide:(1001:Nat)≤sizeLine)
 have up3:∀ b o,s.heap.get? b=some o→h3'.get? b=some o:=fun b o e=>(hsb3.2 b (fun q=>by rw[q,hDn] at e;exists e)).trans (up2 b o e);refine wpAny_pure ?_
 have g3:Go Z σ [] s σ {s1 with heap:=h3'}:=by
  rw[←hs1];exact .of ⟨fun b o e J J J=>up3 b o e,fun b o e=>⟨o,up3 b o e,fun h=>h⟩,⟨[],by walk_at "s",fun J h=>nomatch h⟩,rfl,rfl⟩
 refine hQ (.ref D) _ σ _ H g3 (S.go g3 (fun J h=>nomatch h) fun a o J e=>up3 a o e) ?_ h;have hd4:cZ w.params h3' D ((stored (ks.zip vs1) y v20).map (·.1)) ((stored (ks.zip vs1) y v20).map (·.2)):=cZ.to hd3;refine am (fun i1 i2=>?_) (iK (P:=w.params) (h:=h3') (σ:=σ) (Z:=Z) (VR.go g3 (fun J h=>nomatch h) _ hvu) hlen1 hnd1 (ak.go g3 (fun J h=>nomatch h) _ hvs1) (x:=y));rw[i1] at hd4;exact⟨D,_,rfl,fd,hd4,i2⟩
theorem vX{name:Str}{uv:V}(hr:H[r]? =some (.f (some r2)))(hr2:H[r2]? =some (.n ks l))(hB:typeLookup (.type "function") name=pure none)(hu:(ks.zip l).lookup name=some uv)(hb:gk uv=true):Gt prog w K (.ob r) name uv H:=by
 intro A σ Z s v pl Q E S hv hQ;obtain⟨a,rfl,ea⟩:=hv;obtain⟨oo,fd,dd,ho,hc,hdat,hdn,ed⟩:=S.ob ea hr;obtain⟨ws,hds,hws⟩:=S.ob ed hr2;refine ab (fun v' e hv'=>?_) (dF hws hu);obtain⟨hp,g,dr,t,os⟩:=s;exact nv ho hc hdat hdn hds.2.ns e hB (handed hv' hb) (hQ v' (t+1) hv')
variable{kx:X→Hp→Prop}
theorem ak.simple{P:Params}{h:Heap}{σ σ' Z:List Addr}:∀ {us:List V} {vs:List Value},us.all V.simple=true→ak P h σ Z us vs→ak P h σ' Z us vs
 | [],_,_,q=>by exact q
 | u::us,_,hs,q=>by
  rw[List.all_cons,Bool.and_eq_true] at hs
  revert q;refine ee fun v r e h1 h2=>?_
  exact⟨v,r,e,V.simple.vr hs.1 h1,ak.simple hs.2 h2⟩
theorem jO{t:Sem Value}(hz:∀ x u',(x,u')∈ρ'→∃ u,(x,u)∈ρ∧du H 0 u u')(h:Ev prog w K d hd env ρ' t [] (fun u H2=>∃ ks us,u=.ob 0∧H2=[.d ks us]∧us.all V.simple=true∧k (.dct ks us) H) (fun J J=>False)):
  Ev prog w K d hd env ρ t H k kx:=by
 intro A σ Z s Q E hA S F hQ hE
 have F':FR w.params [] Z env ρ' s.heap:=by
  refine⟨F.kind,F.glob,F.blt,?_,fun x u' e1 e2=>?_,fun x u' e1=>?_,F.locZ,fun x c hc=>⟨(F.celZ x c hc).1.imp (fun q=>q) fun⟨f,k⟩=>⟨⟨f.lo,List.not_mem_nil,f.nz⟩,k⟩,(F.celZ x c hc).2⟩,F.one,F.cex,fun x u' e1=>?_,F.celD⟩
  ·obtain⟨m,hm,q⟩:=F.ns;refine⟨m,hm,fun x u' e1 e2=>?_⟩;refine ab (fun u hu hf=>?_) (hz x u' e1);refine ab (fun v e3 hv=>?_) (q x u hu e2);exact⟨v,e3,hf.asif S hv⟩
  ·refine ab (fun u hu hf=>?_) (hz x u' e1);refine ee (fun c v e3 e4 hv=>?_) (F.cell x u hu e2);exact⟨c,v,e3,e4,hf.asif S hv⟩
  ·refine ab (fun u hu J=>?_) (hz x u' e1);exact F.all x u hu
  ·refine ab (fun u hu J=>?_) (hz x u' e1);exact F.plain x u hu
 refine h A [] Z s Q E hA S.asif F' (fun v s' σ' u H' g' S' hx hk=>?_) (fun J J J J J J J J q=>q.elim)
 revert hk;refine aV fun ks us q t=>?_;obtain rfl:=q;revert t;refine am fun q t=>?_;obtain rfl:=q;revert t;refine am fun hs hk=>?_
 obtain⟨D,rfl,eD⟩:=hx;obtain⟨ws,hdr,hws⟩:=S'.ob eD rfl;obtain⟨τ,rfl,hτ⟩:=g'.sub;have hn:s.heap.get? D=none:=hτ D (by have:=List.mem_of_getElem? eD;simpa using this);refine hQ (.ref D) s' σ (.dct ks us) H g'.asif (S.back g' (fun J h=>nomatch h) S') ?_ hk;refine⟨D,ws,rfl,⟨?_,fun q=>?_,fun q=>?_⟩,hdr,ak.simple hs hws⟩
 ·exact S'.ks D (List.mem_of_getElem? eD)
 ·refine af (fun o e=>?_) (S.sd q);rw[hn] at e;exists e
 ·refine af (fun o e=>?_) (S.zd _ q);rw[hn] at e;exists e
variable{kx:X→Hp→Prop}
theorem q7:dm.kind=.function∧dm.names=[(Str.ofString "attrib",.free),(Str.ofString "kids",.free)]∧dm.isGenerator=false∧dm.isCoroutine=false:=by
 unfold dm av;exact⟨rfl,rfl,rfl,rfl⟩
theorem u9{cl:List (Str × Addr)}{cd ct:Value}:bindArgs (kla_fn "<lambda>" aO br b sc cl pm cd ct) ⟨[],[]⟩=pure []:=by rfl
variable{kids:List V}
theorem zY{as:List V}(h:∀ env:Env,Sc env dm (own env)→Ev prog w K d ⟨hd.h,some env⟩ env [(Str.ofString "kids",.lst kids),(Str.ofString "attrib",.dct ks as)] (eval lW env) H k (fun J J=>False)):
  Pr prog w K (d+1) hd [lA pm (.lst kids) (.dct ks as)] cV H k kx:=by
 intro A σ Z s vs0 Q E hA S hv0 hQ hE;obtain⟨v,rfl,hv⟩:=hv0.inv1;unfold lA at hv;obtain⟨a,o,fd,cs,vs,rfl,f,ho,hc,hdn,hdat,h0,hcl,hn1,hn2,hce,⟨c,oc,ws,t,hc1,fc,hoc,hdc,hq⟩,hl⟩:=hv;obtain⟨vk,va,rfl,hvk,hva⟩:=hl.inv2;obtain⟨ck,r1,rfl⟩:∃ a b,cs=a::b:=by cases cs with | nil=>cases hn2 | cons a b=>exact⟨a,b,rfl⟩
 obtain⟨ca,r2,rfl⟩:∃ a b,r1=a::b:=by cases r1 with | nil=>cases hn2 | cons a b=>exact⟨a,b,rfl⟩
 obtain rfl:r2=[]:=by cases r2 with | nil=>rfl | cons a b=>exists hn2
 refine am (fun fck hck=>?_) (hce 0 ck vk rfl rfl);refine am (fun fca hca=>?_) (hce 1 ca va rfl rfl);obtain⟨i1,i2,i3,i4⟩:=q7
 have hfd:fd=kla_fn "<lambda>" aO br lW dm [(Str.ofString "kids",ck),(Str.ofString "attrib",ca)] pm fd.code fd.closureTuple:=by
  refine(congrArg (fun g:FuncData=>{g with closure:=fd.closure,closureTuple:=fd.closureTuple,code:=fd.code}) h0).trans ?_;rw[hcl];rfl
 have hroom:A.depth < recursionLimit:=by have:=hA.depth;omega
 have hne:ck≠ca:=fun e=>by
  subst e
  revert hck;refine ab fun o1 q1 q2=>?_
  revert hca;refine ab fun o2 q3 q4=>?_
  rw[q1] at q3;exists q3;rw[q2] at q4;exists q4;obtain⟨b,ys,e,_,⟨n,hb⟩,_⟩:=hvk;obtain⟨b',ys',e',_,⟨o3,es,n',hb',hx',hd',_⟩,_⟩:=hva;rw[e] at e';exists e';rw[hb] at hb';exists hb';exists hd'
 rw[hfd] at hdat;show wpAny _ A (call (.ref a) []) Q E s;refine wpAny_call ?_;refine kla_callFunE hroom ho hdat i4 i3 rfl ⟨c,oc,ws,t,hc1,hoc,hdc,hq⟩ ?_;rw[u9];refine wpAny_pure (wpAny_newFunctionEnv (fun x hx=>?_) (fun x hx=>nomatch hx) (fun h' hns hsb=>?_) i1)
 ·rw[i2] at hx;rcases List.mem_cons.mp hx with rfl | hx
  ·exact nofun
  ·rw[List.mem_singleton.mp hx];exact nofun
 ·generalize hL:s.heap.objs.size=L at hns hsb ⊢;obtain⟨env,hen⟩:∃ env,newEnv dm L mainGlobals [(Str.ofString "kids",ck),(Str.ofString "attrib",ca)] (aO++".<locals>.") (some a) fd.code none builtinsNs=env:=⟨_,rfl⟩;show h'.NoLimit∧codeAny (model prog w) A (.expr lW (newEnv dm L mainGlobals [(Str.ofString "kids",ck),(Str.ofString "attrib",ca)] (aO++".<locals>.") (some a) fd.code none builtinsNs)) _ _;rw[hen]
  have hfr:∀ b,L≤b→s.heap.get? b=none:=fun b hb=>by
   cases e:s.heap.get? b with
   | none=>rfl
   | some o'=>exact absurd (Heap.lt_size e) (by rw[hL];exact Nat.not_lt.mpr hb)
  have hkeep:∀ b o,s.heap.get? b=some o→h'.get? b=some o:=fun b o e=>by
   have hb:b≠L:=fun q=>by rw[q,hfr L (Nat.le_refl _)] at e;exists e
   exact(hsb.2 b hb).trans (Heap.get?_push_of_some _ e)
  have hLo:∃ o,h'.get? L=some o:=pT hns;have g1:∀ Z,Go Z σ [] s σ {s with heap:=h',toks:=s.toks+0}:=fun Z=>.of ⟨fun b o e J J J=>hkeep b o e,fun b o e=>⟨o,hkeep b o e,fun h=>h⟩,⟨[],by walk_at "s",fun J h=>nomatch h⟩,rfl,rfl⟩
  have hown:∀ b∈[L],s.heap.get? b=none∧378≤b∧∃ o,h'.get? b=some o:=fun b hb=>by
   rw[List.mem_singleton.mp hb];exact⟨hfr L (Nat.le_refl _),by rw[←hL];exact S.size,hLo⟩
  have el:env.locals=L:=by rw[←hen];rfl
  have ec:env.cells=[(Str.ofString "kids",ck),(Str.ofString "attrib",ca)]:=by rw[←hen];rfl
  have es:env.scope=dm:=by rw[←hen];rfl
  have ekk:env.kindOf (Str.ofString "kids")=some .free:=by unfold Env.kindOf;rw[es,i2];walk_at "k"
  have eka:env.kindOf (Str.ofString "attrib")=some .free:=by unfold Env.kindOf;rw[es,i2];walk_at "k"
  have S0:St K w.params A σ ([L]++Z) H {s with heap:=h',toks:=s.toks+0}:=S.frame (g1 Z) (fun b o J e=>hkeep b o e) hown
  have S1:St K w.params (A.deeper env) σ ([L]++Z) H {s with heap:=h',toks:=s.toks+0}:=by
   refine S0.fewer (fun J h=>h) ?_;obtain⟨fl,e,q⟩:=S0.fr;refine⟨env::fl,by show A.frames.map _=_;rw[e];rfl,fun env' he=>?_⟩;rcases List.mem_cons.mp he with rfl | he
   ·refine ab (fun oL eL dL=>?_) (jT hns);exact⟨by rw[es,i1];decide,L,oL,by rw[←hen];rfl,List.mem_append_left _ List.mem_cons_self,eL,dL⟩
   ·exact q env' he
  have hv1:∀ (u:V) {v:Value},VR w.params s.heap σ Z u v→VR w.params h' σ ([L]++Z) u v:=fun u v q=>VR.go (s:=s) (s':={s with heap:=h',toks:=s.toks+0}) (g1 _) (fun J h=>nomatch h) u (VR.grow (fun b hb=>(hown b hb).1) u q);have fz1:∀ c o,s.heap.get? c=some o→Fz σ Z c→Fz σ ([L]++Z) c:=fun c o e f=>Fz.grow f (fun b hb=>(hown b hb).1) e
  have F:FR w.params σ ([L]++Z) env [(Str.ofString "kids",.lst kids),(Str.ofString "attrib",.dct ks as)] h':=by
   have two:∀ x u,(x,u)∈[(Str.ofString "kids",V.lst kids),(Str.ofString "attrib",V.dct ks as)]→(x=Str.ofString "kids"∧u=V.lst kids)∨(x=Str.ofString "attrib"∧u=V.dct ks as):=fun x u h=>by
    simpa using h
   have twc:∀ x c,(x,c)∈env.cells→(x=Str.ofString "kids"∧c=ck)∨(x=Str.ofString "attrib"∧c=ca):=fun x u h=>by
    rw[ec] at h;simpa using h
   refine⟨by rw[es,i1],by rw[←hen];rfl,by rw[←hen];rfl,⟨_,el▸hns,fun x u e1 e2=>?_⟩,fun x u e1 J=>?_,fun x u e1=>?_,by rw[el];exact List.mem_append_left _ List.mem_cons_self,fun x c' hm=>?_,fun x y c' h1 h2=>?_,fun x c' hm=>?_,fun x u e1=>?_,fun x e=>?_⟩
   ·rcases two x u e1 with ⟨rfl,rfl⟩ | ⟨rfl,rfl⟩
    ·rw[ekk] at e2;exists e2
    ·rw[eka] at e2;exists e2
   ·rcases two x u e1 with ⟨rfl,rfl⟩ | ⟨rfl,rfl⟩
    ·exact⟨ck,vk,by rw[ec];simp,cK hck fun o e=>hkeep _ o e,hv1 _ hvk⟩
    ·exact⟨ca,va,by rw[ec];rfl,cK hca fun o e=>hkeep _ o e,hv1 _ hva⟩
   ·rcases two x u e1 with ⟨rfl,rfl⟩ | ⟨rfl,rfl⟩
    ·exact .inr (.inr ekk)
    ·exact .inr (.inr eka)
   ·rcases twc x c' hm with ⟨rfl,rfl⟩ | ⟨rfl,rfl⟩
    ·revert hck;refine ab fun o e J=>?_
     exact⟨.inr ⟨fz1 _ o e fck,ekk⟩,fun q=>by rw[q,el,hfr L (Nat.le_refl _)] at e;exists e⟩
    ·revert hca;refine ab fun o e J=>?_
     exact⟨.inr ⟨fz1 _ o e fca,eka⟩,fun q=>by rw[q,el,hfr L (Nat.le_refl _)] at e;exists e⟩
   ·rcases twc x c' h1 with ⟨rfl,q1⟩ | ⟨rfl,q1⟩ <;> rcases twc y c' h2 with ⟨rfl,q2⟩ | ⟨rfl,q2⟩
    ·rfl
    ·exact absurd (q1.symm.trans q2) hne
    ·exact absurd (q2.symm.trans q1) hne
    ·rfl
   ·rcases twc x c' hm with ⟨rfl,rfl⟩ | ⟨rfl,rfl⟩
    ·exact⟨_,cK hck fun o e=>hkeep _ o e⟩
    ·exact⟨_,cK hca fun o e=>hkeep _ o e⟩
   ·rcases two x u e1 with ⟨rfl,rfl⟩ | ⟨rfl,rfl⟩ <;> exact⟨by walk_at "k",by walk_at "k"⟩
   ·have:x=Str.ofString "kids"∨x=Str.ofString "attrib":=by
     unfold Env.kindOf at e;rw[es,i2] at e;have hm:∃ kd,(x,kd)∈[(Str.ofString "attrib",NameKind.free),(Str.ofString "kids",NameKind.free)]:=e.elim (fun e=>⟨_,mem_of_lookup e⟩) fun e=>⟨_,mem_of_lookup e⟩
     revert hm;refine af fun kd hm=>?_
     simp only[List.mem_cons,Prod.mk.injEq,List.not_mem_nil,or_false] at hm;exact hm.elim (fun h=>.inr h.1) fun h=>.inl h.1
    rw[ec];rcases this with rfl | rfl
    ·walk_at "s"
    ·rfl
  have hA1:cF (A.deeper env) d ⟨hd.h,some env⟩:=by
   refine⟨?_,?_,hA.none,hA.guards,fun e he=>?_⟩
   ·have:=hA.depth;show A.depth+1+2 * d < _;omega
   ·have:=hA.units;show A.units+3+40 * d < _;omega
   ·exists he;obtain⟨fl,e,_⟩:=S.fr;exact⟨fl,by show A.frames.map _=_;rw[e];rfl⟩
  have cvt:∀ σ' s',Go ([L]++Z) σ [] {s with heap:=h',toks:=s.toks+0} σ' s'→Go Z σ [] s σ' s':=fun σ' s' g'=>by
   have q:Go ([L]++Z) σ ([]++[L]) s σ' s':=((g1 _).trans g' fun J h=>nomatch h).wide fun J h=>nomatch h;exact(q.cut fun b hb=>(hown b hb).1).less fun b hb=>(hown b hb).1
  refine⟨S.bs.lim.keeps hkeep,kla_codeExpr (h env (.own es) (A.deeper env) σ ([L]++Z) _ _ _ hA1 S1 F (fun v s' σ' u H' g' S' hu hk'=>?_) fun e s' σ' x H' g' S' hx hk'=>hk'.elim)⟩;have g:=cvt σ' s' g';exact hQ v s' σ' u H' g (S'.fewer (fun b h=>List.mem_append_right _ h) (S.fr.go g)) (VR.mono (fun J h=>List.mem_append_right _ h) u hu) hk'
variable{kx:X→Hp→Prop}
theorem nD{α:Type}{cenv:Env}{Xw:List Addr}{g:PySem.Comprehension}{inner:(List V→ai→Hp→Prop)→List V→ai→Hp→Prop}{R:ai→Prop}{gv:α→V}{p:α→Bool}{F:α→List V}{ks:List V→ai→Hp→Prop}:
  ∀ (xs:List α) (acc:List V) (ρ0:ai),R ρ0→acc.length+(xs.flatMap fun a=>if p a then F a else []).length≤1000→
  (∀ a∈xs,∀ ρ,R ρ→As prog w K d hd cenv Xw ρ (assign g.target cenv) (gv a) H (fun ρ1 H1=>Eb prog w K d hd cenv ρ1 (gW g.ifs cenv) H1 (fun ok H2=>H2=H∧ok=p a∧
   (ok=true→∀ acc' K',acc'.length+(F a).length≤1000→(∀ ρ',R ρ'→K' (acc'++F a) ρ' H)→inner K' acc' ρ1 H)∧R ρ1) (fun J J=>False)) (fun J J J=>False))→
  (∀ ρ,R ρ→ks (acc++xs.flatMap fun a=>if p a then F a else []) ρ H)→eR prog w K d hd cenv Xw g inner (xs.map gv) ks acc ρ0 H
 | []=>fun acc ρ0 hR J J hk=>by
  rw[List.map_nil];exact(by simpa using hk ρ0 hR:ks acc ρ0 H)
 | a::xs=>fun acc ρ0 hR hl hs hk=>by
  rw[List.map_cons];rw[List.flatMap_cons,List.length_append] at hl;intro A σ Z s v Q E hA S Fr hv hQ hE;refine hs a List.mem_cons_self ρ0 hR A σ Z s v Q E hA S Fr hv (fun s' σ' ρ' H' g' S' F' hk'=>hQ s' σ' ρ' H' g' S' F' ?_) hE;intro A σ Z s Q E hA S Fr hQ hE;refine hk' A σ Z s Q E hA S Fr (fun b s' σ' H' g' S' hk2=>hQ b s' σ' H' g' S' ?_) hE
  revert hk2;refine fY fun eH hb he hR1=>?_
  rw[eH];have hs':=fun u hu=>hs u (List.mem_cons_of_mem _ hu);cases b with
  | true=>
   have hp:p a=true:=hb.symm;rw[hp,if_pos rfl] at hl;refine he rfl acc _ (by omega) fun ρ2 hR2=>?_;refine nD xs _ _ hR2 (by rw[List.length_append];omega) hs' fun ρ hρ=>?_;have:=hk ρ hρ;rw[List.flatMap_cons,hp,if_pos rfl,←List.append_assoc] at this;exact this
  | false=>
   have hp:p a=false:=hb.symm;rw[hp,if_neg (by decide)] at hl;refine nD xs acc _ hR1 (by simpa using hl) hs' fun ρ hρ=>?_;have:=hk ρ hρ;rw[List.flatMap_cons,hp,if_neg (by decide),List.nil_append] at this;exact this
theorem dU{α β:Type}(p:α→Bool)(f:α→β):∀ xs:List α,(xs.flatMap fun a=>if p a then [f a] else [])=(xs.filter p).map f
 | []=>rfl
 | a::xs=>by
  rw[List.flatMap_cons,dU p f xs,List.filter_cons];cases p a <;> rfl
variable{ks:List V→ai→Hp→Prop}
theorem nC{Xw:List Addr}(hsc:Sc cenv scope Xw)(gv:α→V)(p:α→Bool)(f:α→V)(hok:aG scope x=true)(hx:ρ0.all (fun p=>p.1 != x)=true){xs:List α}(hl:xs.length≤1000)(hc:∀ a∈xs,Eb prog w K d hd cenv ((x,gv a)::ρ0) (gW ifs cenv) H (fun b H3=>b=p a∧H3=H) (fun J J=>False))(hs:∀ a∈xs,p a=true→Ev prog w K d hd cenv ((x,gv a)::ρ0) (eval elt cenv) H (fun v H3=>v=f a∧H3=H) (fun J J=>False))(hk:∀ ρ,ks ((xs.filter p).map f) ρ H):
  eR prog w K d hd cenv Xw ⟨.Name x pos,iter,ifs,0⟩ (qD prog w K d hd cenv Xw elt []) (xs.map gv) ks [] ρ0 H:=by
 refine nD (R:=fun ρ=>ρ=ρ0∨∃ u,ρ=(x,u)::ρ0) (p:=p) (F:=fun a=>[f a]) xs [] ρ0 (.inl rfl) ?_ (fun a ha ρ hR=>?_) fun ρ J=>?_
 ·rw[dU,List.length_map];have:=List.length_filter_le p xs;simp only[List.length_nil];omega
 ·refine ad hsc hok (ρ':=(x,gv a)::ρ0) ?_ ?_
  ·rcases hR with rfl | ⟨u',rfl⟩
   ·intro q hq;rcases List.mem_cons.mp hq with e | hq
    ·exact .inl e
    ·exact .inr ⟨hq,by simpa using (List.all_eq_true.mp hx) q hq⟩
   ·exact ba.here hx
  ·intro A σ Z s Q E hA S F hQ hE;refine hc a ha A σ Z s Q E hA S F (fun b s' σ' H' g' S' hk2=>hQ b s' σ' H' g' S' ?_) hE
   revert hk2;refine am fun q t=>?_;obtain rfl:=q;obtain rfl:=t
   refine⟨rfl,rfl,fun hb acc' K' hl' hK'=>?_,.inr ⟨_,rfl⟩⟩;refine And.intro (by simp at hl';omega) ?_;intro A σ Z s Q E hA S F hQ hE;refine hs a ha hb A σ Z s Q E hA S F (fun v s' σ' x H' g' S' hx hk3=>hQ v s' σ' x H' g' S' hx ?_) hE
   revert hk3;refine am fun q t=>?_;obtain rfl:=q;obtain rfl:=t
   exact hK' _ (.inr ⟨_,rfl⟩)
 ·rw[dU,List.nil_append];exact hk ρ
theorem bL{Xw:List Addr}(hsc:Sc cenv scope Xw)(gv:α→V)(f:α→V)(hok:aG scope x=true)(hx:ρ0.all (fun p=>p.1 != x)=true){xs:List α}(hl:xs.length≤1000)(hs:∀ a∈xs,Ev prog w K d hd cenv ((x,gv a)::ρ0) (eval elt cenv) H (fun v H3=>v=f a∧H3=H) (fun J J=>False))(hk:∀ ρ,ks (xs.map f) ρ H):
  eR prog w K d hd cenv Xw ⟨.Name x pos,iter,[],0⟩ (qD prog w K d hd cenv Xw elt []) (xs.map gv) ks [] ρ0 H:=by
 refine nC hsc gv (fun J=>true) f hok hx hl (fun a J=>dN ⟨rfl,rfl⟩) (fun a ha J=>hs a ha) fun ρ=>?_;have e:List.filter (fun J:α=>true) xs=xs:=List.filter_eq_self.mpr fun J J=>rfl;rw[e];exact hk ρ
variable{kx:X→Hp→Prop}
noncomputable def rI:List (String × List String):=[("&",["&amp;","&amp;","&amp;","&amp;","&amp;"]),("<",["&lt;","&lt;","<","&lt;","&lt;"]),(">",["&gt;","&gt;","&gt;","&gt;",">"]),("\"",["\"","&quot;","&quot;","\"","&quot;"]),("\t",["\t","&#09;","\t","\t","&#x9;"]),("\n",["\n","&#10;","\n","\n","&#xA;"]),("\r",["\r","&#13;","\r","&#xD;","&#xD;"])]
noncomputable def cD:List Str:=rI.map fun p=>Str.ofString p.1
noncomputable def fq:List (List Str):=rI.map fun p=>p.2.map Str.ofString
noncomputable def wX:List V:=fq.map fun r=>V.lst (r.map V.str)
noncomputable def ql(hand:Nat)(s:Str):Str:=match (cD.zip fq).lookup s with
 | some r=>r.getD hand s
 | none=>s
noncomputable def aT(hand:Nat)(text:Str):Str:=Txt.join (Str.ofString "") (text.cps.toList.map fun c=>ql hand ⟨#[c]⟩)
variable{s:Str}
theorem s9(h:s∈cD):∃ r:List Str,r.length=5∧(cD.zip wX).lookup s=some (.lst (r.map V.str))∧(∀ hand,ql hand s=r.getD hand s)∧(r.all fun x=>decide (x.length≤6))=true:=by
 simp only[cD,rI,List.map_cons,List.map_nil,List.mem_cons,List.not_mem_nil,or_false] at h;rcases h with rfl | rfl | rfl | rfl | rfl | rfl | rfl
 ·exact⟨["&amp;","&amp;","&amp;","&amp;","&amp;"].map Str.ofString,rfl,by kernel_rfl,(fun hand=>by unfold ql;rw[show(cD.zip fq).lookup (Str.ofString "&")=some (["&amp;","&amp;","&amp;","&amp;","&amp;"].map Str.ofString) from by kernel_rfl]),by walk_at "k"⟩
 ·exact⟨["&lt;","&lt;","<","&lt;","&lt;"].map Str.ofString,rfl,by kernel_rfl,(fun hand=>by unfold ql;rw[show(cD.zip fq).lookup (Str.ofString "<")=some (["&lt;","&lt;","<","&lt;","&lt;"].map Str.ofString) from by kernel_rfl]),by walk_at "k"⟩
 ·exact⟨["&gt;","&gt;","&gt;","&gt;",">"].map Str.ofString,rfl,by kernel_rfl,(fun hand=>by unfold ql;rw[show(cD.zip fq).lookup (Str.ofString ">")=some (["&gt;","&gt;","&gt;","&gt;",">"].map Str.ofString) from by kernel_rfl]),by walk_at "k"⟩
 ·exact⟨["\"","&quot;","&quot;","\"","&quot;"].map Str.ofString,rfl,by kernel_rfl,(fun hand=>by unfold ql;rw[show(cD.zip fq).lookup (Str.ofString "\"")=some (["\"","&quot;","&quot;","\"","&quot;"].map Str.ofString) from by kernel_rfl]),by walk_at "k"⟩
 ·exact⟨["\t","&#09;","\t","\t","&#x9;"].map Str.ofString,rfl,by kernel_rfl,(fun hand=>by unfold ql;rw[show(cD.zip fq).lookup (Str.ofString "\t")=some (["\t","&#09;","\t","\t","&#x9;"].map Str.ofString) from by kernel_rfl]),by walk_at "k"⟩
 ·exact⟨["\n","&#10;","\n","\n","&#xA;"].map Str.ofString,rfl,by kernel_rfl,(fun hand=>by unfold ql;rw[show(cD.zip fq).lookup (Str.ofString "\n")=some (["\n","&#10;","\n","\n","&#xA;"].map Str.ofString) from by kernel_rfl]),by walk_at "k"⟩
 ·exact⟨["\r","&#13;","\r","&#xD;","&#xD;"].map Str.ofString,rfl,by kernel_rfl,(fun hand=>by unfold ql;rw[show(cD.zip fq).lookup (Str.ofString "\r")=some (["\r","&#13;","\r","&#xD;","&#xD;"].map Str.ofString) from by kernel_rfl]),by walk_at "k"⟩
variable{hand:Nat}
theorem tc(h:s∉cD):ql hand s=s:=by
 unfold ql
 have:(cD.zip fq).lookup s=none:=by
  rw[List.lookup_eq_none_iff];intro p hp;have:=(List.of_mem_zip hp).1;rw[bne_iff_ne];exact fun e=>h (e▸this)
 rw[this]
theorem yO(hs:s.length≤6):(ql hand s).length≤6:=by
 by_cases hm:s∈cD
 ·refine yD (fun r hr5 hr hs1 hall=>?_) (s9 hm);rw[hs1];unfold List.getD;cases e:r[hand]? with
  | none=>exact hs
  | some x=>simpa using (List.all_eq_true.mp hall) x (List.mem_of_getElem? e)
 ·rw[tc hm];exact hs
theorem mz:∀ (l:List Nat) (m:Nat),(∀ x∈l,x≤m)→l.sum≤l.length * m
 | []=>fun J J=>by walk_at "s"
 | x::l=>fun m h=>by
  have h1:=h x List.mem_cons_self;have h2:=mz l m fun y hy=>h y (List.mem_cons_of_mem _ hy);rw[List.sum_cons,List.length_cons,Nat.add_mul,Nat.one_mul];omega
noncomputable def FC(hand:Nat):V→V
 | .str s=>.str (ql hand s)
 | u=>u
theorem xk{Xw:List Addr}{f:Value→Sem Unit}{H':Hp}{kxa:X→ai→Hp→Prop}(e:H=H')(h:As prog w K d hd env Xw ρ f u H' ka kxa):As prog w K d hd env Xw ρ f u H ka kxa:=e▸h
variable{top:Option Env}{text:Str}
theorem rJ(hsc:Sc env (aj 20) (own env))(hh:hand < 5)(hl:text.cps.size≤100)(ks:Fl→ai→Hp→Prop)(h:∀ ρ o,ks (.ret (.str (aT hand text))) ρ (H++[o])):
  Ex prog w K (d+1) ⟨true,top⟩ env [("hand",.int hand),("text",.str text)] (execs (av 20) env) H ks (fun J J J=>False):=by
 walk_at "f";walk_at "mv";walk_at "asg"
 with_reducible refine vD (by with_unfolding_all rfl) (by with_unfolding_all rfl) (by with_unfolding_all decide) (by with_unfolding_all decide) ?_
 repeat walk_at "mv"
 refine⟨rfl,by walk_at "k",by decide,xk (H':=H++[Ob.d cD wX]) ⋯ ?_⟩;apply ad hsc ⋯
 ·walk_at "d"
 walk_at "2";refine bl (id:="str.join") rfl rfl rfl ?_;walk_at "mv";refine⟨lM F.slot_str_join F.type_str_join,?_⟩;walk_at "mv";refine au hsc (fun g' hg'=>by simp at hg';subst hg';exact⟨rfl,fun J J=>rfl⟩) ⋯ (ag.take ⋯ (ag.skip (ag.take ⋯ ag.nil))) ?_;refine aX ?_;walk_at "mv";refine⟨_,lX rfl,fun cenv Xw hc=>?_⟩;refine pN hc (FC hand) ⋯ ⋯ ?_ ?_ ?_
 ·unfold dY;simp;omega
 ·intro u hu;refine ab (fun c J t=>?_) (List.mem_map.mp hu);obtain rfl:=t;generalize (⟨#[c]⟩:Str)=s;walk_at "4";refine uC List.getElem?_concat_length ?_;walk_at "mv"
  by_cases hm:s∈cD
  ·rw[decide_eq_true hm];refine yD (fun r hr5 hr hs1 J=>?_) (s9 hm);walk_at "ix";walk_at "ix";walk_at "2";refine⟨zA List.getElem?_concat_length,?_⟩;refine nL List.getElem?_concat_length hr ?_;walk_at "mv";refine⟨rfl,?_⟩;refine nK (by omega) (u:=.str (r.getD hand s)) ?_ (by simp[hr5]) ⟨?_,rfl⟩
   ·simp[List.getElem?_map,List.getD,hr5,hh]
   ·show V.str _=V.str (ql hand s);rw[hs1]
  ·rw[decide_eq_false hm];walk_at "mv";exact⟨by show V.str _=V.str (ql hand s);rw[tc hm],rfl⟩
 ·intro ρ;walk_at "mv";have e:(dY text).map (FC hand)=(text.cps.toList.map fun c=>ql hand ⟨#[c]⟩).map V.str:=by unfold dY;rw[List.map_map,List.map_map];rfl
  rw[e];refine oQ ?_ ?_
  ·have h1:((text.cps.toList.map fun c=>ql hand ⟨#[c]⟩).map (·.length)).sum≤text.cps.toList.length * 6:=by
    refine Nat.le_trans (mz _ 6 fun x hx=>?_) (by walk_at "s");rw[List.map_map] at hx;refine ab (fun c J t=>?_) (List.mem_map.mp hx);obtain rfl:=t;exact yO (show(1:Nat)≤6 by decide)
   have h2:(Str.ofString "").length=0:=by kernel_rfl
   rw[h2];simp only[Array.length_toList] at h1;omega
  ·exact h _ _
variable{kx:X→Hp→Prop}
theorem rK(ok:bI K)(hh:hd.h=true)(hH:pE H.length H=true)(h5:hand < 5)(hl:text.cps.size≤100)(h:k (.str (aT hand text)) H):
  Pr prog w K (d+2) hd [.int hand,.str text] (fun vs=>call (.ref 315) vs) H k kx:=by
 refine fH ?_;obtain⟨hb,top⟩:=hd;exists hh;refine vS (ok.fn (315,20,["hand","text"]) ∅) rfl fun env hsc=>?_;refine Ex.weaken (rJ hsc h5 hl _ fun ρ o=>?_);exact gK hH .str h
noncomputable def mf:List V:=[.tup [.none,.str "",.tup [.str "TypeError",.str "cannot serialize None (type NoneType)"]],.tup [.int 7,.str "",.tup [.str "TypeError",.str "cannot serialize 7 (type int)"]],
 .tup [.lst [.str "&"],.str "",.tup [.str "TypeError",.str "cannot serialize ['&'] (type list)"]],.tup [.lst [.str "x"],.str "",.tup [.str "AssertionError",.str "Header names/values must be of type str (got ['x'])"]]]
noncomputable def ce:List Str:=["","x","&","<",">","\"","\t","\n","\r","&amp;"].map Str.ofString
noncomputable def bb(cell:Nat):Str:=ce.getD (cell / 100 % 10) ⟨#[]⟩++ce.getD (cell / 1000 % 10) ⟨#[]⟩
noncomputable def ir(c:String)(x:Str):Bool:= !(Builtin.Str.occurrences x (Str.ofString c) 0 x.length 1).isEmpty
noncomputable def mC(hand cell:Nat):V:=
 if cell / 100 % 10=9 then mf.getD (cell / 1000 % 10 % 4) .none
 else if ir "\n" (aT hand (bb cell)) || ir "\r" (aT hand (bb cell)) then .tup [.str (bb cell),.str "",.tup [.str "ValueError",.str "Control characters not allowed in headers"]]
 else .tup [.str (bb cell),.str (aT hand (bb cell)),.none]
theorem gd{l:List α}(a:α)(h:i < l.length):l[i]? =some (l.getD i a):=by
 unfold List.getD;rw[List.getElem?_eq_getElem h];rfl
theorem f9(i:Nat):(ce.getD i ⟨#[]⟩).length≤5:=by
 unfold List.getD;cases e:ce[i]? with
 | none=>exact Nat.zero_le _
 | some x=>
  have h:(ce.all fun x=>decide (x.length≤5))=true:=by walk_at "k"
  simpa using (List.all_eq_true.mp h) x (List.mem_of_getElem? e)
theorem uR(cell:Nat):(bb cell).length≤10:=by
 unfold bb;rw[strLen_append];have h1:=f9 (cell / 100 % 10);have h2:=f9 (cell / 1000 % 10);omega
variable{cell:Nat}
theorem yR(ok:bI K)(hsc:Sc env (aj 21) (own env))(hH:pE H.length H=true)(h5:hand < 5)(ks:Fl→ai→Hp→Prop)(h:∀ ρ,ks (.ret (mC hand cell)) ρ H):
  Ex prog w K (d+2) ⟨true,top⟩ env [("hand",.int hand),("cell",.int cell)] (execs (av 21) env) H ks (fun J J J=>False):=by
 walk_at "f";walk_at "mv";walk_at "asg"
 repeat walk_at "mv"
 apply ad hsc ⋯
 ·walk_at "d"
 repeat walk_at "mv"
 by_cases h9:cell / 100 % 10=9
 ·rw[decide_eq_true h9];walk_at "2";walk_at "ixn"
  repeat walk_at "mv"
  refine⟨_,cell / 1000 % 10 % 4,mf.getD (cell / 1000 % 10 % 4) .none,.l,rfl,gd (l:=mf) _ (by show _ < 4;omega),by decide,?_⟩;have e:mC hand cell=mf.getD (cell / 1000 % 10 % 4) .none:=if_pos h9;exact e▸h _
 ·rw[decide_eq_false h9];walk_at "2";walk_at "asg";walk_at "mv";walk_at "ixn"
  repeat walk_at "mv"
  refine⟨_,cell / 100 % 10,.str (ce.getD (cell / 100 % 10) ⟨#[]⟩),.l,rfl,?_,Nat.le_of_ble_eq_true rfl,?_⟩
  ·show(ce.map V.str)[cell / 100 % 10]? =_;rw[List.getElem?_map,gd (l:=ce) ⟨#[]⟩ (by show _ < 10;omega)];rfl
  walk_at "ixn"
  repeat walk_at "mv"
  refine⟨_,cell / 1000 % 10,.str (ce.getD (cell / 1000 % 10) ⟨#[]⟩),.l,rfl,?_,Nat.le_of_ble_eq_true rfl,?_⟩
  ·show(ce.map V.str)[cell / 1000 % 10]? =_;rw[List.getElem?_map,gd (l:=ce) ⟨#[]⟩ (by show _ < 10;omega)];rfl
  refine j0 ?_ ?_
  ·have h1:=f9 (cell / 100 % 10);have h2:=f9 (cell / 1000 % 10);exact Nat.le_trans (by omega:_≤10) (by decide)
  have ft:ce.getD (cell / 100 % 10) ⟨#[]⟩++ce.getD (cell / 1000 % 10) ⟨#[]⟩=bb cell:=rfl;rw[ft];apply ad hsc ⋯
  ·walk_at "d"
  walk_at "mv";walk_at "asg";refine eV ok hsc (x:="_law_spelled") (a:=315) ∅ (ok.fn (315,20,["hand","text"]) ∅).obj ⋯ ⋯ rfl rfl ?_
  repeat walk_at "mv"
  refine rK ok rfl hH h5 (Nat.le_trans (uR cell) (by decide)) ?_;apply ad hsc ⋯
  ·walk_at "d"
  walk_at "2";refine vy (ib ?_);walk_at "3";refine wQ (fh ?_)
  have e:mC hand cell=if (ir "\n" (aT hand (bb cell)) || ir "\r" (aT hand (bb cell)))=true then .tup [.str (bb cell),.str "",.tup [.str "ValueError",.str "Control characters not allowed in headers"]]
   else .tup [.str (bb cell),.str (aT hand (bb cell)),.none]:=if_neg h9
  cases h1:ir "\n" (aT hand (bb cell)) with
  | true=>
   rw[show(!(Builtin.Str.occurrences (aT hand (bb cell)) (Str.ofString "\n") 0 (aT hand (bb cell)).length 1).isEmpty)=true from h1];rw[h1,Bool.true_or,if_pos rfl] at e
   repeat walk_at "mv"
   exact e▸h _
  | false=>
   rw[show(!(Builtin.Str.occurrences (aT hand (bb cell)) (Str.ofString "\n") 0 (aT hand (bb cell)).length 1).isEmpty)=false from h1];rw[h1,Bool.false_or] at e;refine ib ?_;walk_at "3";refine wQ (fh ?_);cases h2:ir "\r" (aT hand (bb cell)) with
   | true=>
    rw[show(!(Builtin.Str.occurrences (aT hand (bb cell)) (Str.ofString "\r") 0 (aT hand (bb cell)).length 1).isEmpty)=true from h2];rw[h2,if_pos rfl] at e
    repeat walk_at "mv"
    exact e▸h _
   | false=>
    rw[show(!(Builtin.Str.occurrences (aT hand (bb cell)) (Str.ofString "\r") 0 (aT hand (bb cell)).length 1).isEmpty)=false from h2];rw[h2,if_neg (by decide)] at e;refine iQ ?_;rw[show(BoolOp.Or==BoolOp.And)=false from rfl]
    repeat walk_at "mv"
    exact e▸h _
theorem yT(ok:bI K)(hh:hd.h=true)(hH:pE H.length H=true)(h5:hand < 5)(h:k (mC hand cell) H):Pr prog w K (d+3) hd [.int hand,.int cell] (fun vs=>call (.ref 322) vs) H k kx:=by
 obtain⟨hb,top⟩:=hd;exists hh;refine vS (ok.fn (322,21,["hand","cell"]) ∅) rfl fun env hsc=>?_;exact Ex.weaken (yR ok hsc hH h5 _ fun ρ=>h)
variable{kx:X→Hp→Prop}
noncomputable def iX:Str:=Str.ofString "Control characters not allowed in headers"
noncomputable def nZ(b:Bool):Nat→Bool:=if b then aW else aF
theorem d7{Xw:List Addr}(hsc:Sc env sc Xw)(h:sc.names.lookup x=some .globalImplicit):env.kindOf x=some .globalImplicit:=hsc.glob x h
variable{self:V}{b:Bool}
theorem fv(ok:bI K)(hh:hd.h=true)(hx:x.cps.size≤1000)(h1:x.cps.any (nZ b)=false→k (.str x) H)(h2:x.cps.any (nZ b)=true→kx ⟨"ValueError",[.str iX]⟩ H):
  Pr prog w K (d+1) hd [self,.str x,.bool b] (lz (.ref 207) 2 [Str.ofString "name"]) H k kx:=by
 obtain⟨hb,top⟩:=hd;exists hh;refine kh (ar:=fun vs=>⟨vs.take 2,[Str.ofString "name"].zip (vs.drop 2)⟩) (ρ0:=[("self",self),("value",.str x),("name",.bool b)]) (ys:=[self,.str x,.bool b]) ok.hsConv rfl rfl (fun fd hb=>BS hb rfl (fun J J J J J q=>q)) fun env hsc=>?_;walk_at "b";walk_at "3";refine iq ok hsc ⋯ iV rfl rfl ?_
 repeat walk_at "mv"
 refine oY (T:="str") rfl ?_;refine lE ok hsc ⋯ ly (.inr ⟨"str",rfl,rfl⟩) ?_;refine p0 ?_;walk_at "mv";rw[show(decide ("str"="str"))=true from rfl];walk_at "mv";walk_at "asg";walk_at "mv";refine bY rfl ?_
 repeat walk_at "mv"
 cases b with
 | false=>
  refine eE ok hsc (x:="_value_disallowed_re") (a:=177) ∅ ⋯ ⋯ ?_;apply ad hsc ⋯
  ·walk_at "d"
  walk_at "2";refine nq rfl ok.pats.2 (C:=gE) rfl wW hx (by walk_at "g") (by walk_at "g") ?_;cases hbad:x.cps.any (nZ false) with
  | true=>
   rw[show x.cps.any aF=true from hbad];walk_at "mv";refine i9 F.excCall_ValueError F.excRaise_ValueError (d7 hsc ⋯) (ok.blt "ValueError" ∅) cG ∅ ⋯ rfl rfl ?_
   repeat walk_at "mv"
   exact h2 hbad
  | false=>
   rw[show x.cps.any aF=false from hbad]
   repeat walk_at "mv"
   exact h1 hbad
 | true=>
  refine eE ok hsc (x:="_name_disallowed_re") (a:=172) ∅ ⋯ ⋯ ?_;apply ad hsc ⋯
  ·walk_at "d"
  walk_at "2";refine nq rfl ok.pats.1 (C:=rX) rfl yN hx (by walk_at "g") (by walk_at "g") ?_;cases hbad:x.cps.any (nZ true) with
  | true=>
   rw[show x.cps.any aW=true from hbad];walk_at "mv";refine i9 F.excCall_ValueError F.excRaise_ValueError (d7 hsc ⋯) (ok.blt "ValueError" ∅) cG ∅ ⋯ rfl rfl ?_
   repeat walk_at "mv"
   exact h2 hbad
  | false=>
   rw[show x.cps.any aW=false from hbad]
   repeat walk_at "mv"
   exact h1 hbad
theorem vm(ok:bI K)(hh:hd.h=true)(h:kx ⟨"AssertionError",[.str eX]⟩ H):
  Pr prog w K (d+2) hd [self,.lst [.str (Str.ofString "x")],.bool b] (lz (.ref 207) 2 [Str.ofString "name"]) H k kx:=by
 obtain⟨hb,top⟩:=hd;exists hh;refine kh (ar:=fun vs=>⟨vs.take 2,[Str.ofString "name"].zip (vs.drop 2)⟩) (ρ0:=[("self",self),("value",.lst [.str (Str.ofString "x")]),("name",.bool b)]) (ys:=[self,.lst [.str (Str.ofString "x")],.bool b]) ok.hsConv rfl rfl (fun fd hb=>BS hb rfl (fun J J J J J q=>q)) fun env hsc=>?_;walk_at "b";walk_at "3";refine iq ok hsc ⋯ iV rfl rfl ?_
 repeat walk_at "mv"
 refine oY (T:="list") rfl ?_;refine lE ok hsc ⋯ ly (.inr ⟨"str",rfl,rfl⟩) ?_;refine p0 ?_;walk_at "mv";rw[show(decide ("list"="str"))=false from by decide];walk_at "2"
 with_reducible refine i9 F.excCall_AssertionError F.excRaise_AssertionError (d7 hsc ⋯) (ok.blt "AssertionError" ∅) eT ∅ ⋯ (by with_unfolding_all rfl) (by with_unfolding_all rfl) ?_
 walk_at "mv"
 with_reducible refine bl (id:="str.format") (by with_unfolding_all rfl) (by with_unfolding_all rfl) (by with_unfolding_all rfl) ?_
 walk_at "mv";refine⟨lM F.slot_str_format_m F.type_str_format_m,?_⟩;walk_at "mv";refine cQ ok hsc ⋯ xt rfl rfl ?_
 repeat walk_at "mv"
 refine uG ?_
 repeat walk_at "mv"
 refine rv ?_
 repeat walk_at "mv"
 exact h
variable{kx:X→Hp→Prop}
noncomputable def gu(p:Str × Str):V:=.tup [.str p.1,.str p.2]
noncomputable def wB(p:Str × Str):Bool:=decide (p.1.cps.size≤1000)&&decide (p.2.cps.size≤1000)&& !p.1.cps.any aW&& !p.2.cps.any aF
noncomputable def gq:List Str:=[Str.ofString "_headers"]
theorem xW(ok:bI K)(hh:hd.h=true)(h:k (.ins 306 H.length) (H++[.n gq [.ob (H.length+1)],.l []])):Pr prog w K (d+2) hd [] (fun vs=>call (.ref 306) vs) H k kx:=by
 obtain⟨hb,top⟩:=hd;exists hh;obtain⟨⟨o,h1,h2⟩,_⟩:=ok.hsInit.at
 refine mj ok.hs (ok.hsM ("__init__",200) ∅) h1 h2 ?_;refine kh (ar:=fun vs=>⟨vs,[]⟩) (ρ0:=[("self",.ins 306 H.length),("headers",.none)]) (ys:=[.ins 306 H.length,.none]) ok.hsInit rfl rfl (fun fd hb=>u8 hb.1 rfl (fun J J J J vs q=>ak.app q (ak.one (by rfl)))) fun env hsc=>?_;walk_at "b";walk_at "mv";walk_at "asg"
 repeat walk_at "mv"
 refine dR (b:=true) rfl ?_;walk_at "mv";refine aZ ?_
 repeat walk_at "mv"
 apply ad hsc ⋯
 ·walk_at "d"
 walk_at "3";refine iq ok hsc ⋯ iV rfl rfl ?_
 repeat walk_at "mv"
 have g1:(H++[Ob.n [] []]++[Ob.l []])[H.length]? =some (.n [] []):=by walk_at "s"
 have g2:(H++[Ob.n [] []]++[Ob.l []])[(H++[Ob.n [] []]).length]? =some (.l []):=List.getElem?_concat_length;refine mq g2 ?_;refine lE ok hsc ⋯ n8 (.inr ⟨"list",rfl,rfl⟩) ?_;refine kC ?_;walk_at "mv";rw[show(!decide ("list"="list"))=false from rfl];walk_at "2";walk_at "asg"
 repeat walk_at "mv"
 refine dc ?_
 repeat walk_at "mv"
 refine v8 ok g1 (by decide) ?_
 have eH:(H++[Ob.n [] []]++[Ob.l []]).set H.length (.n [Str.ofString "_headers"] [.ob (H++[Ob.n [] []]).length])=H++[.n gq [.ob (H.length+1)],.l []]:=by
  rw[List.append_assoc,List.set_append_right _ _ (Nat.le_refl _),Nat.sub_self,List.length_append];rfl
 rw[eH];have g3:(H++[.n gq [.ob (H.length+1)],.l []])[(H++[Ob.n [] []]).length]? =some (.l []):=by rw[List.length_append];exact FB
 walk_at "mv";refine si (ρ':=[("headers",.lst [])]) ?_ ?_
 ·intro x u' hm;rw[List.mem_singleton] at hm;exists hm;exact⟨.ob (H++[Ob.n [] []]).length,by walk_at "s",.ol (Nat.zero_le _) g3 .nil⟩
 ·walk_at "mv";refine bY rfl ?_
  repeat walk_at "mv"
  refine dk (fun J=>rfl) ?_;refine aX ?_;walk_at "mv";refine⟨_,oC rfl,?_⟩;refine tj ?_;refine an ⟨rfl,?_⟩;exact an ⟨rfl,h⟩
theorem ig(n:Nat):∀ l:List (Str × Str),bU n (l.map gu)=true:=aC n gu fun J=>rfl
variable{ps:List (Str × Str)}
theorem xX(ok:bI K)(hh:hd.h=true)(hr:H[r]? =some (.l (ps.map gu)))(hp:ps.all wB=true)(h:k (.ins 306 H.length) (H++[.n gq [.ob r]])):Pr prog w K (d+3) hd [.ob r] (fun vs=>call (.ref 306) vs) H k kx:=by
 obtain⟨hb,top⟩:=hd;exists hh;obtain⟨⟨o,h1,h2⟩,_⟩:=ok.hsInit.at
 refine mj ok.hs (ok.hsM ("__init__",200) ∅) h1 h2 ?_;refine kh (ar:=fun vs=>⟨vs,[]⟩) (ρ0:=[("self",.ins 306 H.length),("headers",.ob r)]) (ys:=[.ins 306 H.length,.ob r]) ok.hsInit rfl rfl (fun fd hb=>u8 hb.2 rfl (fun J J J J vs q=>q)) fun env hsc=>?_;walk_at "b";have hrl:r < H.length:=(List.getElem?_eq_some_iff.mp hr).1;walk_at "mv";walk_at "asg"
 repeat walk_at "mv"
 refine dR (b:=false) rfl ?_;walk_at "mv";rw[show(!false)=true from rfl];walk_at "mv";apply ad hsc ⋯
 ·walk_at "d"
 walk_at "3";refine iq ok hsc ⋯ iV rfl rfl ?_
 repeat walk_at "mv"
 have g1:(H++[Ob.n [] []])[H.length]? =some (.n [] []):=by walk_at "s"
 have g2:(H++[Ob.n [] []])[r]? =some (.l (ps.map gu)):=by rw[List.getElem?_append_left hrl];exact hr
 refine mq g2 ?_;refine lE ok hsc ⋯ n8 (.inr ⟨"list",rfl,rfl⟩) ?_;refine kC ?_;walk_at "mv";rw[show(!decide ("list"="list"))=false from rfl];walk_at "2";walk_at "asg"
 repeat walk_at "mv"
 refine dc ?_
 repeat walk_at "mv"
 refine v8 ok g1 (by decide) ?_
 have eH:(H++[Ob.n [] []]).set H.length (.n [Str.ofString "_headers"] [.ob r])=H++[.n gq [.ob r]]:=by
  rw[List.set_append_right _ _ (Nat.le_refl _),Nat.sub_self];rfl
 rw[eH];have g3:(H++[.n gq [.ob r]])[r]? =some (.l (ps.map gu)):=by rw[List.getElem?_append_left hrl];exact hr
 have g4:(H++[.n gq [.ob r]])[H.length]? =some (.n gq [.ob r]):=by walk_at "s"
 walk_at "mv";refine si (ρ':=[("self",.fin 306 gq [.lst (ps.map gu)]),("headers",.lst (ps.map gu))]) ?_ ?_
 ·intro x u' hm;simp only[List.mem_cons,List.not_mem_nil,or_false] at hm;rcases hm with hm | hm
  ·exists hm;exact⟨.ins 306 H.length,by walk_at "s",.oi (Nat.zero_le _) g4 (.cons (.ol (Nat.zero_le _) g3 (aM.same _ (ig 0 ps))) .nil)⟩
  ·exists hm;exact⟨.ob r,by walk_at "s",.ol (Nat.zero_le _) g3 (aM.same _ (ig 0 ps))⟩
 ·walk_at "mv";refine bY rfl ?_
  repeat walk_at "mv"
  refine dk (fun J=>rfl) ?_;refine aX ?_;walk_at "mv";refine⟨_,oC rfl,?_⟩;refine bG (fun i ρ H'=>H'=[]∧ρ=[(.ofString "self",.fin 306 gq [.lst (ps.map gu)]),(.ofString "headers",.lst (ps.map gu))]) ?_ ⟨rfl,rfl⟩ ?_
  ·rintro i u ρ H' hu ⟨rfl,rfl⟩;rw[List.getElem?_map] at hu;refine ab (fun p hpi t=>?_) (Option.map_eq_some_iff.mp hu);obtain rfl:=t;have hpk:=(List.all_eq_true.mp hp) p (List.mem_of_getElem? hpi);simp only[wB,Bool.and_eq_true,decide_eq_true_eq,Bool.not_eq_true'] at hpk;obtain⟨⟨⟨hp1,hp2⟩,hp3⟩,hp4⟩:=hpk;obtain⟨hcv,hck⟩:=ok.hsConv.at
   rw[show gu p=V.tup [.str p.1,.str p.2] from rfl];refine de rfl (fun J h=>h) rfl rfl rfl ?_;apply ad hsc ⋯
   ·walk_at "d"
   apply ad hsc ⋯
   ·walk_at "d"
   refine mT ?_;walk_at "mv";refine aR rfl ?_;refine dD (n:=2) (names:=[Str.ofString "name"]) rfl rfl rfl hck rfl rfl rfl ?_;walk_at "mv";refine⟨bN ok ∅ hcv fW ∅,?_⟩;walk_at "3";refine⟨rfl,eU (fN (gG ?_))⟩;refine fv ok rfl hp1 (fun J=>?_) (fun q=>by rw[show nZ true=aW from rfl,hp3] at q;exists q);walk_at "mv";refine aR rfl ?_;refine dD (n:=2) (names:=[Str.ofString "name"]) rfl rfl rfl hck rfl rfl rfl ?_;walk_at "mv";refine⟨bN ok ∅ hcv fW ∅,?_⟩;walk_at "3";refine⟨rfl,eU (fN (gG ?_))⟩;refine fv ok rfl hp2 (fun J=>?_) (fun q=>by rw[show nZ false=aF from rfl,hp4] at q;exists q);refine an ⟨_,?_,rfl,rfl⟩;intro q hq;simp only[List.mem_cons,List.not_mem_nil,or_false] at hq ⊢;rcases hq with rfl | rfl
   ·exact .inl rfl
   ·exact .inr (.inl rfl)
  ·rintro ρ' H' ⟨rfl,rfl⟩;refine an ⟨rfl,?_⟩;exact an ⟨rfl,h⟩
variable{kx:X→Hp→Prop}
theorem we(x y:Str):Txt.join x [y]=y:=by
 unfold Txt.join Builtin.Str.glued;walk_at "s"
variable{q:Nat}{nm:Str}
theorem je(ok:bI K)(hh:hd.h=true){val:Str}(hr:H[r]? =some (.n gq [.ob q]))(hq:H[q]? =some (.l (ps.map gu)))(hl:ps.length≤100)(hn1:nm.cps.size≤1000)(hn2:nm.cps.any aW=false)(hv:val.cps.size≤1000)(h1:val.cps.any aF=false→k .none ((H++[Ob.l [V.str val]]).set q (Ob.l ((ps++[(nm,val)]).map gu))))(h2:val.cps.any aF=true→kx ⟨"ValueError",[.str iX]⟩ (H++[Ob.l []])):
  Pr prog w K (d+2) hd [.ins 306 r,.str nm,.str val] (fun vs=>call (.ref 303) vs) H k kx:=by
 obtain⟨hb,top⟩:=hd;exists hh;have hrl:r < H.length:=(List.getElem?_eq_some_iff.mp hr).1;have hql:q < H.length:=(List.getElem?_eq_some_iff.mp hq).1;obtain⟨hcv,hck⟩:=ok.hsConv.at
 refine kh (ar:=fun vs=>⟨vs,[]⟩) (ρ0:=[("self",.ins 306 r),("_name",.str nm),("_value",.str val),("_params",.dct [] [])]) (ys:=[.ins 306 r,.str nm,.str val,.dct [] []]) ok.hsAdd rfl rfl (fun fd hb=>y7 hb rfl) fun env hsc=>?_;walk_at "b";walk_at "mv";walk_at "asg";refine aZ ?_
 repeat walk_at "mv"
 apply ad hsc ⋯
 ·walk_at "d"
 walk_at "2"
 repeat walk_at "mv"
 refine dR (b:=false) rfl ?_;walk_at "mv";rw[show(!false)=true from rfl];walk_at "mv";walk_at "asg";have g1:(H++[Ob.l []])[r]? =some (.n gq [.ob q]):=by rw[List.getElem?_append_left hrl];exact hr
 have g2:(H++[Ob.l []])[H.length]? =some (.l []):=List.getElem?_concat_length;refine dD (n:=2) (names:=[Str.ofString "name"]) rfl rfl rfl hck rfl rfl rfl ?_;walk_at "mv";refine⟨eu ok g1 ∅ hcv fW ∅,?_⟩;walk_at "3";refine⟨rfl,eU (fN (gG ?_))⟩;refine fv ok rfl hv (fun hgood=>?_) (fun hbad=>h2 hbad);apply ad hsc ⋯
 ·walk_at "d"
 walk_at "mv";refine aR rfl ?_;refine bl (id:="list.append") rfl rfl rfl ?_;walk_at "mv";refine⟨bM g2,?_⟩
 repeat walk_at "mv"
 refine bF g2 (by walk_at "s") ?_;have s1:(H++[Ob.l []]).set H.length (.l ([]++[.str val]))=H++[.l [.str val]]:=by walk_at "s"
 rw[s1];have g3:(H++[Ob.l [.str val]])[r]? =some (.n gq [.ob q]):=by rw[List.getElem?_append_left hrl];exact hr
 have g4:(H++[Ob.l [.str val]])[H.length]? =some (.l [.str val]):=List.getElem?_concat_length;have g5:(H++[Ob.l [.str val]])[q]? =some (.l (ps.map gu)):=by rw[List.getElem?_append_left hql];exact hq
 walk_at "2";refine dk (fun J=>rfl) ?_;refine ua rfl rfl (by walk_at "g") ?_;refine tj ?_;walk_at "mv";refine aR rfl ?_;refine bl (id:="list.append") rfl rfl rfl ?_;refine aI rfl ?_;walk_at "mv";refine pI ok g3 (u:=.ob q) ⋯ rfl ?_;refine⟨bM g5,?_⟩;walk_at "3";refine dD (n:=2) (names:=[Str.ofString "name"]) rfl rfl rfl hck rfl rfl rfl ?_;walk_at "mv";refine⟨eu ok g3 ∅ hcv fW ∅,?_⟩;walk_at "3";refine⟨rfl,eU (fN (gG ?_))⟩;refine fv ok rfl hn1 (fun J=>?_) (fun qq=>by rw[show nZ true=aW from rfl,hn2] at qq;exists qq);walk_at "mv"
 with_reducible refine bl (id:="str.join") (by with_unfolding_all rfl) (by with_unfolding_all rfl) (by with_unfolding_all rfl) ?_
 walk_at "mv";refine⟨lM F.slot_str_join F.type_str_join,?_⟩;walk_at "3";refine yJ (xs':=[.str (Str.ofString "; "),.lst [.str val]]) (.cons .str (.cons (.ol (Nat.zero_le _) g4 (.cons .str .nil)) .nil)) ?_;refine oQ (ys:=[val]) ?_ ?_
 ·have:(Str.ofString "; ").length=2:=by kernel_rfl
  have hv':val.length≤1000:=hv;rw[this];walk_at "s";omega
 rw[we];refine⟨rfl,?_⟩;walk_at "3";refine bF g5 (by walk_at "s";omega) ?_;refine an ?_;rw[List.map_append] at h1;exact h1 hgood
theorem t9(ok:bI K)(hh:hd.h=true)(hr:H[r]? =some (.n gq [.ob q]))(h2:kx ⟨"AssertionError",[.str eX]⟩ (H++[Ob.l []])):
  Pr prog w K (d+3) hd [.ins 306 r,.str nm,.lst [.str (Str.ofString "x")]] (fun vs=>call (.ref 303) vs) H k kx:=by
 obtain⟨hb,top⟩:=hd;exists hh;have hrl:r < H.length:=(List.getElem?_eq_some_iff.mp hr).1;obtain⟨hcv,hck⟩:=ok.hsConv.at
 refine kh (ar:=fun vs=>⟨vs,[]⟩) (ρ0:=[("self",.ins 306 r),("_name",.str nm),("_value",.lst [.str (Str.ofString "x")]),("_params",.dct [] [])]) (ys:=[.ins 306 r,.str nm,.lst [.str (Str.ofString "x")],.dct [] []]) ok.hsAdd rfl rfl (fun fd hb=>y7 hb rfl) fun env hsc=>?_;walk_at "b";walk_at "mv";walk_at "asg";refine aZ ?_
 repeat walk_at "mv"
 apply ad hsc ⋯
 ·walk_at "d"
 walk_at "2"
 repeat walk_at "mv"
 refine dR (b:=false) rfl ?_;walk_at "mv";rw[show(!false)=true from rfl];walk_at "mv";walk_at "asg";have g1:(H++[Ob.l []])[r]? =some (.n gq [.ob q]):=by rw[List.getElem?_append_left hrl];exact hr
 refine dD (n:=2) (names:=[Str.ofString "name"]) rfl rfl rfl hck rfl rfl rfl ?_;walk_at "mv";refine⟨eu ok g1 ∅ hcv fW ∅,?_⟩;walk_at "3";refine⟨rfl,eU (fN (gG ?_))⟩;exact vm ok rfl h2
noncomputable abbrev hsF(ps:List (Str × Str)):V:=.fin 306 gq [.lst (ps.map gu)]
theorem qY(ok:bI K)(hh:hd.h=true)(hl:ps.length≤1000)(h:k (.lst (ps.map gu)) H):Pr prog w K (d+1) hd [hsF ps] (fun vs=>call (.ref 270) vs) H k kx:=by
 obtain⟨hb,top⟩:=hd;exists hh;refine bp (ρ0:=[("self",hsF ps)]) (ok.hsF (270,11,["self"]) ∅) rfl rfl fun env hsc=>?_;walk_at "b";walk_at "2";walk_at "slc";refine aI rfl ?_;walk_at "mv";refine eZ ok (u:=.lst (ps.map gu)) ⋯ rfl ?_;walk_at "4";refine⟨rfl,eq (by simpa using hl) (by decide) ?_⟩;rw[dX];simp only[Option.elim,List.drop_zero,Nat.sub_zero];rw[List.take_length];exact h
variable{kx:X→Hp→Prop}
noncomputable abbrev BA:=List Nat × List Nat × List (List Nat)
noncomputable def jR(rows:List (List Bool))(pile:List Nat)(place:Nat):Nat:=((pile.filter fun one=>(rows.getD place []).getD one false).getLast?).getD 0
noncomputable def bD(rows:List (List Bool))(st:BA)(place:Nat):BA:=
 (st.1.take (st.1.idxOf (jR rows st.1 place)+1)++[place],st.2.1++[jR rows st.1 place],st.2.2++[place::st.2.2.getD (jR rows st.1 place) []])
noncomputable def ae(rows:List (List Bool)):Nat→BA
 | 0=>([0],[0],[[0]])
 | n+1=>bD rows (ae rows n) (n+1)
noncomputable abbrev ah(n:Nat):V:=.int (n:Int)
noncomputable abbrev al(l:List Nat):V:=.lst (l.map ah)
noncomputable abbrev jv(l:List Bool):V:=.lst (l.map V.bool)
structure zJ(rows:List (List Bool))(n:Nat):Prop where
 ex:n≤5
 all:∀ x∈(ae rows n).1,x≤n
 zero:∃ r,(ae rows n).1=0::r
 l1:(ae rows n).1.length≤n+1
 l2:(ae rows n).2.1.length=n+1
 l3:(ae rows n).2.2.length=n+1
 up:∀ x∈(ae rows n).2.1,x≤n
 c3:∀ x∈(ae rows n).2.2,x.length≤n+1
variable{rows:List (List Bool)}
theorem fS{pile:List Nat}{place:Nat}(h0:0∈pile)(ht:(rows.getD place []).getD 0 false=true):∃ u,(pile.filter fun one=>(rows.getD place []).getD one false).getLast? =some u∧u∈pile∧jR rows pile place=u:=by
 have hne:(pile.filter fun one=>(rows.getD place []).getD one false)≠[]:=by
  intro e;have:0∈pile.filter fun one=>(rows.getD place []).getD one false:=List.mem_filter.mpr ⟨h0,ht⟩;rw[e] at this;exists this
 refine⟨_,List.getLast?_eq_some_getLast hne,(List.mem_filter.mp (List.getLast_mem hne)).1,?_⟩;unfold jR;rw[List.getLast?_eq_some_getLast hne];rfl
theorem lQ{rows:List (List Bool)}(ht:∀ p,1≤p→p≤5→(rows.getD p []).getD 0 false=true):∀ n,n≤5→zJ rows n
 | 0=>fun J=>⟨by decide,by simp[ae],by simp[ae],by simp[ae],by simp[ae],by simp[ae],by simp[ae],by simp[ae]⟩
 | n+1=>fun h=>by
  have ih:=lQ ht n (by omega);obtain⟨r,hr⟩:=ih.zero;refine fo (fun u hu1 hu2 hu3=>?_) (fS (place:=n+1) (by rw[hr];exact List.mem_cons_self:0∈(ae rows n).1) (ht (n+1) (by omega) h));have hun:=ih.all u hu2;refine⟨h,?_,?_,?_,?_,?_,?_,?_⟩
  ·intro x hx;simp only[ae,bD] at hx;rcases List.mem_append.mp hx with hx | hx
   ·have:=ih.all x (List.mem_of_mem_take hx);omega
   ·rw[List.mem_singleton.mp hx];exact Nat.le_refl _
  ·refine⟨r.take ((ae rows n).1.idxOf u)++[n+1],?_⟩;simp only[ae,bD,hu3];rw[show(ae rows n).1.take _=(0::r).take _ from congrArg _ hr,List.take_succ_cons];rfl
  ·simp only[ae,bD,List.length_append,List.length_take,List.length_singleton];exact Nat.succ_le_succ (Nat.le_trans (Nat.min_le_right _ _) ih.l1)
  ·simp only[ae,bD,List.length_append,List.length_singleton,ih.l2]
  ·simp only[ae,bD,List.length_append,List.length_singleton,ih.l3]
  ·intro x hx;simp only[ae,bD,hu3] at hx;rcases List.mem_append.mp hx with hx | hx
   ·have:=ih.up x hx;omega
   ·rw[List.mem_singleton.mp hx];omega
  ·intro x hx;simp only[ae,bD,hu3] at hx;rcases List.mem_append.mp hx with hx | hx
   ·have:=ih.c3 x hx;omega
   ·rw[List.mem_singleton.mp hx]
    have:((ae rows n).2.2.getD u []).length≤n+1:=by
     unfold List.getD;cases e:(ae rows n).2.2[u]? with
     | none=>exact Nat.zero_le _
     | some y=>exact ih.c3 y (List.mem_of_getElem? e)
    simpa using this
theorem xY(ok:bI K)(hsc:Sc env (aj 24) (own env))(hr6:rows.length=6)(hrl:∀ p,p≤5→(rows.getD p []).length=p)(ht:∀ p,1≤p→p≤5→(rows.getD p []).getD 0 false=true)(ks:Fl→ai→Hp→Prop)(h:∀ ρ,ks (.ret (.tup [.ob H.length,.ob (H.length+1)])) ρ (H++[.l ((ae rows 5).2.1.map ah),.l ((ae rows 5).2.2.map al)])):
  Ex prog w K d ⟨true,top⟩ env [("told",.lst (rows.map jv))] (execs (av 24) env) H ks (fun J J J=>False):=by
 walk_at "f";walk_at "mv";refine vJ rfl hsc ⟨by kernel_rfl,by kernel_rfl,by kernel_rfl⟩ ⋯ (fun hb k1 k2 k3=>te (m:=3) (BT hb) rfl (vO (if_pos (fJ (pJ k1) rfl)) (vO (if_pos (fJ (pJ k2) rfl)) (vO (if_pos (fJ (pJ k3) rfl)) rfl))) ∅ ⋯ ⋯) ?_;walk_at "8";refine aZ ?_;walk_at "5";refine aZ ?_;walk_at "5"
 repeat walk_at "mv"
 refine⟨_,_,_, ?w,rfl, ?hp, ?hk⟩
 case hp=>
  apply iP.cons
  ·walk_at "d"
  apply iP.cons
  ·walk_at "d"
  apply iP.cons
  ·walk_at "d"
  exact iP.nil
 walk_at "mv";refine dk (fun J=>rfl) ?_;refine cp ok hsc ⋯ aJ rfl rfl ?_
 repeat walk_at "mv"
 refine⟨_,ez rfl ⟨by decide,by decide,by decide,by decide⟩,?_⟩;rw[show(H++[Ob.l [V.int 0]]).length=H.length+1 from by walk_at "s",show H++[Ob.l [V.int 0]]++[Ob.l [V.lst [V.int 0]]]=H++[.l ((ae rows 0).2.1.map ah),.l ((ae rows 0).2.2.map al)] from by simp[ae,ah,al]];refine bG (fun i ρ H'=>i≤5∧ρ=[(.ofString "told",.lst (rows.map jv)),(.ofString "chains",.ob (H.length+1)),(.ofString "ups",.ob H.length),(.ofString "pile",al (ae rows i).1)]∧H'=H++[.l ((ae rows i).2.1.map ah),.l ((ae rows i).2.2.map al)]) ?_ ⟨by decide,rfl,rfl⟩ ?_
 ·rintro i u ρ H' hu ⟨hi5,rfl,rfl⟩;have O:=lQ ht i hi5;rw[List.getElem?_map] at hu
  have hi:i < 5:=by
   rcases Nat.lt_or_ge i 5 with q | q
   ·exact q
   ·rw[List.getElem?_eq_none (by simpa using q)] at hu;exists hu
  obtain rfl:ah (i+1)=u:=by
   rw[List.getElem?_range (by exact hi)] at hu;rw[←Option.some.inj hu];show V.int ((i+1:Nat):Int)=V.int (1+(i:Int));congr 1;omega
  obtain⟨r,hr⟩:=O.zero;refine fo (fun up hu1 hu2 hu3=>?_) (fS (rows:=rows) (place:=i+1) (by rw[hr];exact List.mem_cons_self:0∈(ae rows i).1) (ht (i+1) (by omega) (by omega)));apply ad hsc ⋯
  ·walk_at "d"
  walk_at "mv";refine aR rfl ?_;refine bl (id:="list.append") rfl rfl rfl ?_;walk_at "mv";have g1:(H++[Ob.l ((ae rows i).2.1.map ah),.l ((ae rows i).2.2.map al)])[H.length]? =some (.l ((ae rows i).2.1.map ah)):=by walk_at "s"
  refine⟨bM g1,?_⟩;walk_at "mv";walk_at "ix";refine au hsc (fun g' hg'=>by simp at hg';subst hg';exact⟨rfl,fun J J=>rfl⟩) ⋯ (ag.take ⋯ (ag.skip (ag.skip (ag.skip (ag.take ⋯ ag.nil))))) ?_;refine aX ?_;walk_at "mv";refine⟨_,aS rfl,fun cenv Xw hc=>?_⟩;refine kj hc id (fun u=>match u with | .int j=>(rows.getD (i+1) []).getD j.toNat false | _=>false) ⋯ ⋯ (by have:=O.l1;simp;omega) ?_ ?_ ?_
  ·intro u hu;refine ab (fun j hj t=>?_) (List.mem_map.mp hu);obtain rfl:=t;have hji:=O.all j hj;have hlen:=hrl (i+1) (by omega);refine bY rfl ?_;walk_at "ixn";walk_at "ixn";walk_at "2";refine⟨_,i+1,jv (rows.getD (i+1) []),.l,rfl,?_,by simp[hr6],?_⟩
   ·rw[List.getElem?_map,gd [] (by omega)];rfl
   walk_at "mv";refine⟨_,j,.bool ((rows.getD (i+1) []).getD j false),.l,rfl,?_,by simp only[List.length_map,hlen];omega,?_⟩
   ·rw[List.getElem?_map,gd false (by omega)];rfl
   refine fh ⟨?_,rfl⟩;show _=(rows.getD (i+1) []).getD (((j:Nat):Int).toNat) false;rw[Int.toNat_natCast]
  ·intro u hu J;walk_at "mv";exact⟨rfl,rfl⟩
  ·intro ρ2
   have ef:(((ae rows i).1.map ah).filter fun u=>match u with | .int j=>(rows.getD (i+1) []).getD j.toNat false | _=>false).map id=((ae rows i).1.filter fun one=>(rows.getD (i+1) []).getD one false).map ah:=by
    rw[List.map_id,List.filter_map];congr 1
   rw[ef];generalize hL:((ae rows i).1.filter fun one=>(rows.getD (i+1) []).getD one false)=L at hu1;have hLl:L.length≤6:=by rw[←hL];exact Nat.le_trans (List.length_filter_le _ _) (by have:=O.l1;omega)
   have hL0:0 < L.length:=by
    cases L with
    | nil=>exists hu1
    | cons a l=>simp
   refine kT (jN ⟨1,rfl,?_⟩);refine⟨rfl,m6 (u:=ah up) (by decide) (by walk_at "s";omega) ?_ (by walk_at "s";omega) ?_⟩
   ·rw[List.length_map,show(-1+(L.length:Int)).toNat=L.length - 1 from EE _,List.getElem?_map];rw[List.getLast?_eq_getElem?] at hu1;rw[hu1];rfl
   walk_at "mv";refine bF g1 (by simp[O.l2];omega) ?_;have s1:(H++[Ob.l ((ae rows i).2.1.map ah),.l ((ae rows i).2.2.map al)]).set H.length (.l ((ae rows i).2.1.map ah++[ah up]))=H++[.l (((ae rows i).2.1++[up]).map ah),.l ((ae rows i).2.2.map al)]:=by walk_at "s"
   rw[s1];have g3:(H++[Ob.l (((ae rows i).2.1++[up]).map ah),.l ((ae rows i).2.2.map al)])[H.length]? =some (.l (((ae rows i).2.1++[up]).map ah)):=by walk_at "s"
   have g4:(H++[Ob.l (((ae rows i).2.1++[up]).map ah),.l ((ae rows i).2.2.map al)])[H.length+1]? =some (.l ((ae rows i).2.2.map al)):=by walk_at "s"
   walk_at "mv";refine aR rfl ?_;refine bl (id:="list.append") rfl rfl rfl ?_;walk_at "mv";refine⟨bM g4,?_⟩;walk_at "7";walk_at "ixn";walk_at "mv";walk_at "ix";walk_at "mv";refine kT (jN ⟨1,rfl,?_⟩)
   have last:(((ae rows i).2.1++[up]).map ah)[((-1:Int)+(((ae rows i).2.1++[up]).map ah).length).toNat]? =some (ah up):=by
    rw[List.length_map,List.length_append,List.length_singleton,show((-1:Int)+((ae rows i).2.1.length+1:Nat)).toNat=(ae rows i).2.1.length from EE _,List.getElem?_map,List.getElem?_concat_length];rfl
   have gQ:(((ae rows i).2.1++[up]).map ah).length=i+2:=by simp[O.l2]
   refine⟨nA g3,f7 (u:=ah up) g3 (by decide) (by rw[gQ];omega) last (by rw[gQ];omega) ?_⟩;have hupi:=O.all up hu2;refine⟨_,up,al ((ae rows i).2.2.getD up []),.o _ g4,rfl,?_,by simp[O.l3];omega,?_⟩
   ·rw[List.getElem?_map,gd [] (by rw[O.l3];omega)];rfl
   have hcl:((ae rows i).2.2.getD up []).length≤i+1:=by
    unfold List.getD;cases e:(ae rows i).2.2[up]? with
    | none=>exact Nat.zero_le _
    | some y=>exact O.c3 y (List.mem_of_getElem? e)
   refine bx (by simp only[List.length_map,List.length_singleton];omega) ?_;walk_at "mv";refine bF g4 (by simp[O.l3];omega) ?_
   have s2:(H++[Ob.l (((ae rows i).2.1++[up]).map ah),.l ((ae rows i).2.2.map al)]).set (H.length+1) (.l ((ae rows i).2.2.map al++[.lst ([ah (i+1)]++((ae rows i).2.2.getD up []).map ah)]))=H++[.l (((ae rows i).2.1++[up]).map ah),.l (((ae rows i).2.2++[(i+1)::(ae rows i).2.2.getD up []]).map al)]:=by
    simp[al]
   rw[s2];have g5:(H++[Ob.l (((ae rows i).2.1++[up]).map ah),.l (((ae rows i).2.2++[(i+1)::(ae rows i).2.2.getD up []]).map al)])[H.length]? =some (.l (((ae rows i).2.1++[up]).map ah)):=by walk_at "s"
   walk_at "mv";walk_at "asg";walk_at "mv";walk_at "slc";walk_at "5";refine bl (id:="list.index") rfl rfl rfl ?_;walk_at "mv";refine⟨AG F.slot_list_index F.type_list_index,?_⟩;walk_at "mv";walk_at "ix";walk_at "mv";refine kT (jN ⟨1,rfl,?_⟩);refine⟨nA g5,f7 (u:=ah up) g5 (by decide) (by rw[gQ];omega) last (by rw[gQ];omega) ?_⟩;walk_at "mv";refine uD hu2 (by have:=O.l1;omega) ?_;walk_at "2";refine⟨_,rfl,?_⟩;walk_at "mv";have hix:=List.idxOf_lt_length_of_mem hu2;refine⟨rfl,eq (by have:=O.l1;simp;omega) (by decide) ?_⟩;rw[wE _ (by walk_at "s";omega),←List.map_take];walk_at "5";refine bx (by have:=O.l1;simp;omega) ?_;apply ad hsc ⋯
   ·walk_at "d"
   have e1:(ae rows (i+1)).1=(ae rows i).1.take ((ae rows i).1.idxOf up+1)++[i+1]:=by simp only[ae,bD,hu3]
   have e2:(ae rows (i+1)).2.1=(ae rows i).2.1++[up]:=by simp only[ae,bD,hu3]
   have e3:(ae rows (i+1)).2.2=(ae rows i).2.2++[(i+1)::(ae rows i).2.2.getD up []]:=by simp only[ae,bD,hu3]
   refine an ⟨[("told",.lst (rows.map jv)),("chains",.ob (H.length+1)),("ups",.ob H.length),("pile",al (ae rows (i+1)).1)],?_,by omega,rfl,by rw[e2,e3]⟩;intro p hp;rw[e1] at hp;simp only[al,List.map_append,List.map_cons,List.map_nil] at hp;simp only[List.mem_cons,List.not_mem_nil,or_false] at hp ⊢;rcases hp with rfl | rfl | rfl | rfl
   ·exact .inl rfl
   ·exact .inr (.inl rfl)
   ·exact .inr (.inr (.inl rfl))
   ·exact .inr (.inr (.inr (.inl rfl)))
 ·rintro ρ' H' ⟨_,rfl,rfl⟩
  repeat walk_at "mv"
  exact h _
theorem x6(ok:bI K)(hh:hd.h=true)(hH:pE H.length H=true)(hr6:rows.length=6)(hrl:∀ p,p≤5→(rows.getD p []).length=p)(ht:∀ p,1≤p→p≤5→(rows.getD p []).getD 0 false=true)(h:k (.tup [al (ae rows 5).2.1,.lst ((ae rows 5).2.2.map al)]) H):Pr prog w K (d+1) hd [.lst (rows.map jv)] (fun vs=>call (.ref 339) vs) H k kx:=by
 refine fH ?_;obtain⟨hb,top⟩:=hd;exists hh;refine vS (ok.fn (339,24,["told"]) ∅) rfl fun env hsc=>?_;refine Ex.weaken (xY ok hsc hr6 hrl ht _ fun ρ=>?_);refine gK hH (.tup (.cons (.ol (Nat.le_refl _) (by walk_at "s") (aM.same _ (aC _ ah (fun J=>rfl) _))) (.cons (.ol (Nat.le_succ _) (by walk_at "s") (aM.same _ (aC _ al (fun l=>aC _ ah (fun J=>rfl) l) _))) .nil))) h
variable{kx:X→Hp→Prop}
structure mS where
 (n nt b:Nat) (c:List Nat)
noncomputable def fK(c:List Nat)(b:Nat):List Nat:=if c.length≤b then c++List.replicate (b - c.length+1) 0 else c
noncomputable def jC(s:mS):mS:=⟨s.n+1,s.nt+1,0,(fK s.c s.b).set s.b ((fK s.c s.b).getD s.b 0+1)⟩
noncomputable def jB:List Nat→mS→mS
 | [],s=>s
 | x::l,s=>if x=32 then jB l ⟨s.n+1,s.nt,s.b+1,s.c⟩ else if x=9 then jB l (jC s) else s
noncomputable def aQ(x:Str):mS:=jB x.cps.toList ⟨0,0,0,[]⟩
theorem Fg{b:Nat}(h:c≤b):((b:Int) - c+1).toNat=b - c+1:=by rw[←Int.ofNat_sub h];rfl
variable{s:mS}
theorem o7{x:Nat}{l:List Nat}:jB (x::l) s=if x=32 then jB l ⟨s.n+1,s.nt,s.b+1,s.c⟩ else if x=9 then jB l (jC s) else s:=rfl
set_option tactic.hygienic true in
theorem nW(c:List Nat)(b:Nat):(fK c b).length=max c.length (b+1):=by
 unfold fK;split <;> rename_i h
 ·rw[List.length_append,List.length_replicate,←Nat.add_assoc,Nat.add_sub_cancel' h,Nat.max_eq_right (Nat.le_succ_of_le h)]
 ·exact(Nat.max_eq_left (Nat.lt_of_not_le h)).symm
noncomputable def mI:List Str:=["is_simple","norm","nt","n","raw"].map Str.ofString
noncomputable def mM(x:Str)(s:mS):List V:=[.bool (decide (s.c.length≤1)),.tup [.tup (s.c.map ah),ah s.b],ah s.nt,ah s.n,.str x]
noncomputable def y4(x:Str):V:=.fin 158 mI (mM x (aQ x))
noncomputable def jA(r0 r:Nat)(x:Str)(s:mS):ai:=[("self",.ins 158 r0),("ws",.str x),("T",.str (Str.ofString "\t")),("S",.str (Str.ofString " ")),("count",.ob r),("b",ah s.b),("n",ah s.n),("nt",ah s.nt)]
inductive Fa (H0:Hp) (r0:Nat) (x:Str) (i:Nat) (ρ:ai) (H':Hp):Prop
 | mk (s:mS) (r:Nat) (τ:Hp):jB (x.cps.toList.drop i) s=aQ x→s.b≤i→s.c.length≤i→ρ=jA r0 r x s→H'=H0++τ→H0.length≤r→H'[r]? =some (.l (s.c.map ah))→Fa H0 r0 x i ρ H'
inductive E9 (H0:Hp) (r0:Nat) (x:Str) (fl:Fl) (ρ:ai) (H':Hp):Prop
 | mk (e:fl=.next) (r:Nat) (τ:Hp):(aQ x).b≤x.length→(aQ x).c.length≤x.length→(∀ p∈jA r0 r x (aQ x),p∈ρ)→H'=H0++τ→H0.length≤r→H'[r]? =some (.l ((aQ x).c.map ah))→E9 H0 r0 x fl ρ H'
inductive Fb (H0:Hp) (r0:Nat) (x:Str) (s:mS) (fl:Fl) (ρ:ai) (H':Hp):Prop
 | mk (e:fl=.next) (r:Nat) (τ:Hp):H'=H0++τ→H0.length≤r→H'[r]? =some (.l ((fK s.c s.b).map ah))→(∀ p∈(Str.ofString "count",V.ob r)::[("self",.ins 158 r0),("ws",.str x),("T",.str (Str.ofString "\t")),("S",.str (Str.ofString " ")),("b",ah s.b),("n",ah (s.n+1)),("nt",ah (s.nt+1))],p∈ρ)→Fb H0 r0 x s fl ρ H'
theorem on{l:List α}{c:α}(h:l[i]? =some c):l.drop i=c::l.drop (i+1):=by
 obtain⟨h1,h2⟩:=List.getElem?_eq_some_iff.mp h;rw[List.drop_eq_getElem_cons h1,h2]
theorem vN(x:α)(n:Nat):(List.replicate n [x]).flatten=List.replicate n x:=by
 induction n with
 | zero=>rfl
 | succ n ih=>rw[List.replicate_succ,List.replicate_succ,List.flatten_cons,ih];rfl
theorem sH(c n:Nat):((⟨#[c]⟩:Str)==(⟨#[n]⟩:Str))=decide (c=n):=by
 rw[Bool.eq_iff_iff];simp
theorem Ae(ok:bI K){Xw:List Addr}(hsc:Sc env sc Xw)(hl:sc.names.lookup (Str.ofString "Whitespace")=some .globalImplicit)(h:k (.str (Str.ofString " ")) H):Ev prog w K d hd env ρ (eval (.Attribute (.Name (Str.ofString "Whitespace") p1) (Str.ofString "S") p2) env) H k kx:=by
 obtain⟨h1,⟨t1,h2⟩,t2,h3⟩:=ok.wsS;exact aI rfl (eE ok hsc (x:="Whitespace") (a:=158) ∅ hl ⋯ (ky h1 h2 rfl (fun J J J J=>by exact⟨_,rfl⟩) h))
theorem Af(ok:bI K){Xw:List Addr}(hsc:Sc env sc Xw)(hl:sc.names.lookup (Str.ofString "Whitespace")=some .globalImplicit)(h:k (.str (Str.ofString "\t")) H):Ev prog w K d hd env ρ (eval (.Attribute (.Name (Str.ofString "Whitespace") p1) (Str.ofString "T") p2) env) H k kx:=by
 obtain⟨h1,⟨t1,h2⟩,t2,h3⟩:=ok.wsS;exact aI rfl (eE ok hsc (x:="Whitespace") (a:=158) ∅ hl ⋯ (ky h1 h3 rfl (fun J J J J=>by exact⟨_,rfl⟩) h))
theorem uV(ok:bI K)(hsc:Sc env (bT 12 1) (own env)){r0:Nat}(hx:x.length≤100)(hr:H[r0]? =some (.n [] []))(ks:Fl→ai→Hp→Prop)(h:∀ ρ τ,ks .next ρ (H.set r0 (.n mI (mM x (aQ x)))++τ)):
  Ex prog w K d ⟨true,top⟩ env [("self",.ins 158 r0),("ws",.str x)] (execs (dw 12 1) env) H ks (fun J J J=>False):=by
 walk_at "b";have hlt:r0 < H.length:=(List.getElem?_eq_some_iff.mp hr).1;walk_at "mv";walk_at "asg"
 repeat walk_at "mv"
 refine dc ?_
 repeat walk_at "mv"
 refine mN ok hr (name:="raw") ∅ wy (by decide) ?_;generalize hH1:H.set r0 (Ob.n [Str.ofString "raw"] [V.str x])=H1;have hl1:H1.length=H.length:=by rw[←hH1,List.length_set]
 have hr1:H1[r0]? =some (.n [Str.ofString "raw"] [.str x]):=by rw[←hH1];simp[hlt]
 walk_at "mv";refine vI rfl hsc ⟨by kernel_rfl,by kernel_rfl⟩ ⋯ (fun hb k1 k2=>te (m:=2) (BT hb) rfl (vO (if_pos (fJ (pJ k1) rfl)) (vO (if_pos (fJ (pJ k2) rfl)) rfl)) ∅ ⋯ ⋯) ?_;refine vG ?_;walk_at "mv";refine Ae ok hsc ⋯ ?_;walk_at "mv";refine Af ok hsc ⋯ ?_
 repeat walk_at "mv"
 refine⟨_,_, ?w,rfl, ?hp, ?hk⟩
 case hp=>
  apply iP.cons
  ·walk_at "d"
  apply iP.cons
  ·walk_at "d"
  exact iP.nil
 walk_at "mv";walk_at "asg";refine aZ ?_
 repeat walk_at "mv"
 apply ad hsc ⋯
 ·walk_at "d"
 walk_at "mv";refine qR rfl rfl rfl ?_
 repeat walk_at "mv"
 apply ad hsc ⋯
 ·walk_at "d"
 apply ad hsc ⋯
 ·walk_at "d"
 apply ad hsc ⋯
 ·walk_at "d"
 walk_at "mv";refine Ex.weaken (ks:=E9 H1 r0 x) (kxs:=fun J J J=>False) ?_ ?_
 ·refine dk (fun J=>rfl) ?_;refine aX (aI rfl ?_)
  repeat walk_at "mv"
  have hr2:(H1++[Ob.l []])[r0]? =some (.n [Str.ofString "raw"] [.str x]):=by rw[List.getElem?_append_left (by omega)];exact hr1
  refine qA ok hr2 (name:="raw") (u:=.str x) ∅ wy ⋯ rfl ?_;refine⟨_,lX rfl,?_⟩;refine bG (Fa H1 r0 x) ?_ ⟨⟨0,0,0,[]⟩,H1.length,[Ob.l []],rfl,Nat.le_refl _,Nat.le_refl _,?_,rfl,Nat.le_refl _,by walk_at "s"⟩ ?_
  ·rintro i u ρ H' hu ⟨s,r,τ,hrun,hb,hc,rfl,rfl,hrl,hrr⟩;unfold dY at hu;rw[List.getElem?_map] at hu;refine ab (fun c hci t=>?_) (Option.map_eq_some_iff.mp hu);obtain rfl:=t;have hix:i < x.length:=(List.getElem?_eq_some_iff.mp hci).1;rw[on hci] at hrun;have hx1:x.length≤100:=hx;unfold jA;apply ad hsc ⋯
   ·walk_at "d"
   repeat walk_at "mv"
   have e1:((⟨#[c]⟩:Str)==Str.ofString " ")=decide (c=32):=by
    rw[show Str.ofString " "=(⟨#[32]⟩:Str) from by kernel_rfl];exact sH c 32
   rw[e1]
   by_cases h32:c=32
   ·rw[decide_eq_true h32];rw[o7] at hrun;rw[if_pos h32] at hrun;walk_at "mv";walk_at "asg"
    repeat walk_at "mv"
    apply ad hsc ⋯
    ·walk_at "d"
    walk_at "mv";walk_at "asg"
    repeat walk_at "mv"
    apply ad hsc ⋯
    ·walk_at "d"
    refine an ?_;refine an ?_;refine⟨jA r0 r x ⟨s.n+1,s.nt,s.b+1,s.c⟩,?_,⟨s.n+1,s.nt,s.b+1,s.c⟩,r,τ,hrun,by show s.b+1≤_;omega,by show s.c.length≤_;omega,rfl,rfl,hrl,hrr⟩;unfold jA;walk_at "in"
   ·rw[decide_eq_false h32];walk_at "mv"
    repeat walk_at "mv"
    have e2:((⟨#[c]⟩:Str)==Str.ofString "\t")=decide (c=9):=by
     rw[show Str.ofString "\t"=(⟨#[9]⟩:Str) from by kernel_rfl];exact sH c 9
    rw[e2];rw[o7] at hrun;rw[if_neg h32] at hrun
    by_cases h9:c=9
    ·rw[decide_eq_true h9];rw[if_pos h9] at hrun;walk_at "mv";walk_at "asg"
     repeat walk_at "mv"
     apply ad hsc ⋯
     ·walk_at "d"
     walk_at "mv";walk_at "asg"
     repeat walk_at "mv"
     apply ad hsc ⋯
     ·walk_at "d"
     walk_at "mv";have hi1:i+1≤1000:=Nat.le_trans hix (Nat.le_trans hx1 (by decide));have hcl:(s.c.map ah).length≤1000:=by rw[List.length_map];exact Nat.le_trans (Nat.le_succ_of_le hc) hi1
     refine Ex.weaken (ks:=Fb H1 r0 x s) (kxs:=fun J J J=>False) ?_ ?_
     ·walk_at "mv"
      repeat walk_at "mv"
      refine cQ ok hsc ⋯ eA rfl rfl ?_
      repeat walk_at "mv"
      refine j3 hrr hcl ?_;walk_at "2"
      by_cases hlen:s.c.length≤s.b
      ·rw[decide_eq_true (by walk_at "s";omega)];walk_at "mv";walk_at "asg"
       repeat walk_at "mv"
       refine cQ ok hsc ⋯ eA rfl rfl ?_
       repeat walk_at "mv"
       refine j3 hrr hcl ?_
       repeat walk_at "mv"
       refine mn (by decide) ?_ ?_ ?_ ?_
       ·simp;omega
       ·simp;omega
       ·simp;omega
       refine uy hrr ?_ ?_
       ·simp;rw[Fg hlen,←Nat.add_assoc,Nat.add_sub_cancel' hlen];exact Nat.le_trans (Nat.succ_le_succ hb) hi1
       apply ad hsc ⋯
       ·walk_at "d"
       refine an ⟨rfl,(H1++τ).length,_,List.append_assoc ..,by walk_at "s",?_,?_⟩
       ·rw[List.getElem?_concat_length];unfold fK;rw[if_pos hlen,List.map_append,List.map_replicate,vN,List.length_map,show((s.b:Int) - (s.c.length:Int)+1).toNat=s.b - s.c.length+1 from Fg hlen];rfl
       ·walk_at "in"
      ·rw[decide_eq_false (by walk_at "s";omega)];refine an ⟨rfl,r,τ,rfl,hrl,?_,?_⟩
       ·unfold fK;rw[if_neg hlen];exact hrr
       ·walk_at "in"
     ·rintro fl ρ H' ⟨rfl,r',τ',rfl,hr'l,hr'r,hρ⟩;refine fB hρ ?_;have hpl:=nW s.c s.b;have hpb:s.b < (fK s.c s.b).length:=by rw[hpl];exact Nat.le_max_right _ _
      have hm:max s.c.length (s.b+1)≤i+1:=Nat.max_le.mpr ⟨Nat.le_succ_of_le hc,Nat.succ_le_succ hb⟩;have hpl2:((fK s.c s.b).map ah).length≤1000:=by rw[List.length_map,hpl];exact Nat.le_trans hm hi1
      have hgb:((fK s.c s.b).map ah)[s.b]? =some (ah ((fK s.c s.b).getD s.b 0)):=by
       rw[List.getElem?_map,List.getD_eq_getElem?_getD,List.getElem?_eq_getElem hpb];rfl
      walk_at "mv";walk_at "asg";walk_at "mv";walk_at "ix";walk_at "2";refine⟨nA hr'r,qa hr'r (by omega) hgb hpl2 ?_⟩
      repeat walk_at "mv"
      refine u5 ?_
      repeat walk_at "mv"
      refine uH hr'r (by omega) (by walk_at "s";omega) hpl2 ?_
      have hset:(H1++τ').set r' (.l (((fK s.c s.b).map ah).set s.b (ah ((fK s.c s.b).getD s.b 0+1))))=H1++τ'.set (r' - H1.length) (.l ((jC s).c.map ah)):=by
       rw[List.set_append_right _ _ hr'l];unfold jC;rw[List.map_set]
      rw[show((s.b:Int)).toNat=s.b from rfl,hset];have hr'':r' < (H1++τ').length:=(List.getElem?_eq_some_iff.mp hr'r).1;rw[List.length_append] at hr'';walk_at "mv";walk_at "asg";walk_at "mv";apply ad hsc ⋯
      ·walk_at "d"
      refine an ?_;refine an ?_;refine an ?_;refine⟨jA r0 r' x (jC s),?_,jC s,r',_,hrun,Nat.zero_le _,?_,rfl,rfl,hr'l,?_⟩
      ·unfold jA jC;walk_at "in"
      ·unfold jC;rw[List.length_set,hpl];exact hm
      ·rw[List.getElem?_append_right hr'l,List.getElem?_set_self (Nat.sub_lt_left_of_lt_add hr'l hr'')]
    ·rw[decide_eq_false h9];rw[if_neg h9] at hrun;subst hrun;walk_at "mv";refine vH ?_;refine⟨rfl,r,τ,by omega,by omega,?_,rfl,hrl,hrr⟩;unfold jA;walk_at "in"
  ·rfl
  ·rintro ρ' H' ⟨s,r,τ,hrun,hb,hc,rfl,rfl,hrl,hrr⟩;have hlen:(dY x).length=x.length:=by unfold dY;rw[List.length_map];rfl
   rw[hlen] at hrun hb hc;rw[List.drop_eq_nil_of_le (show x.cps.toList.length≤x.length from Nat.le_refl _)] at hrun;obtain rfl:s=aQ x:=hrun;exact⟨rfl,r,τ,hb,hc,fun J q=>q,rfl,hrl,hrr⟩
 ·rintro fl ρ H' ⟨rfl,r,τ,hb,hc,hρ,rfl,hrl,hrr⟩;refine fB hρ ?_;unfold jA;have hr3:(H1++τ)[r0]? =some (.n [Str.ofString "raw"] [.str x]):=by rw[List.getElem?_append_left (by omega)];exact hr1
  have hcl:((aQ x).c.map ah).length≤1000:=by walk_at "s";omega
  walk_at "mv";walk_at "asg"
  repeat walk_at "mv"
  refine dc ?_
  repeat walk_at "mv"
  refine mN ok hr3 (name:="n") ∅ A7 (by decide) ?_;have hlt2:r0 < (H1++τ).length:=by rw[List.length_append];omega
  have hne:r≠r0:=by omega
  generalize hH2:(H1++τ).set r0 (.n [Str.ofString "n",Str.ofString "raw"] [ah (aQ x).n,.str x])=H2;have hr4:H2[r0]? =some (.n [Str.ofString "n",Str.ofString "raw"] [ah (aQ x).n,.str x]):=by rw[←hH2];exact List.getElem?_set_self hlt2
  walk_at "mv";walk_at "asg"
  repeat walk_at "mv"
  refine dc ?_
  repeat walk_at "mv"
  refine mN ok hr4 (name:="nt") ∅ sS (by decide) ?_
  have hset3:H2.set r0 (.n [Str.ofString "nt",Str.ofString "n",Str.ofString "raw"] [ah (aQ x).nt,ah (aQ x).n,.str x])=(H1++τ).set r0 (.n [Str.ofString "nt",Str.ofString "n",Str.ofString "raw"] [ah (aQ x).nt,ah (aQ x).n,.str x]):=by
   rw[←hH2,List.set_set]
  rw[hset3];have hr5:((H1++τ).set r0 (.n [Str.ofString "nt",Str.ofString "n",Str.ofString "raw"] [ah (aQ x).nt,ah (aQ x).n,.str x]))[r0]? =some (.n [Str.ofString "nt",Str.ofString "n",Str.ofString "raw"] [ah (aQ x).nt,ah (aQ x).n,.str x]):=List.getElem?_set_self hlt2;have hr6:((H1++τ).set r0 (.n [Str.ofString "nt",Str.ofString "n",Str.ofString "raw"] [ah (aQ x).nt,ah (aQ x).n,.str x]))[r]? =some (.l ((aQ x).c.map ah)):=by rw[List.getElem?_set_ne (Ne.symm hne)];exact hrr
  walk_at "mv";walk_at "asg";walk_at "2";refine iq ok hsc ⋯ ve rfl rfl ?_
  repeat walk_at "mv"
  refine qf hr6 hcl ?_
  repeat walk_at "mv"
  refine dc ?_
  repeat walk_at "mv"
  refine mN ok hr5 (name:="norm") ∅ oO (by decide) ?_;rw[List.set_set];have hr7:((H1++τ).set r0 (.n [Str.ofString "norm",Str.ofString "nt",Str.ofString "n",Str.ofString "raw"] [.tup [.tup ((aQ x).c.map ah),ah (aQ x).b],ah (aQ x).nt,ah (aQ x).n,.str x]))[r0]? =some (.n [Str.ofString "norm",Str.ofString "nt",Str.ofString "n",Str.ofString "raw"] [.tup [.tup ((aQ x).c.map ah),ah (aQ x).b],ah (aQ x).nt,ah (aQ x).n,.str x]):=List.getElem?_set_self hlt2;have hr8:((H1++τ).set r0 (.n [Str.ofString "norm",Str.ofString "nt",Str.ofString "n",Str.ofString "raw"] [.tup [.tup ((aQ x).c.map ah),ah (aQ x).b],ah (aQ x).nt,ah (aQ x).n,.str x]))[r]? =some (.l ((aQ x).c.map ah)):=by rw[List.getElem?_set_ne (Ne.symm hne)];exact hrr
  walk_at "mv";walk_at "asg"
  repeat walk_at "mv"
  refine cQ ok hsc ⋯ eA rfl rfl ?_
  repeat walk_at "mv"
  refine j3 hr8 hcl ?_
  repeat walk_at "mv"
  refine dc ?_
  repeat walk_at "mv"
  refine mN ok hr7 (name:="is_simple") ∅ fX (by decide) ?_;rw[List.set_set,List.set_append_left _ _ (by omega),←hH1,List.set_set];refine an ?_
  have e5:V.bool (decide ((((aQ x).c.map ah).length:Int)≤1))=.bool (decide ((aQ x).c.length≤1)):=by
   congr 1;rw[decide_eq_decide,List.length_map];exact Int.ofNat_le (n:=1)
  rw[e5];exact h _ _
variable{kx:X→Hp→Prop}
noncomputable def wsF(x:Str)(s:mS):V:=.fin 158 mI (mM x s)
noncomputable def iN(s:mS):Int:=max ((s.c.length:Int) - 1) (s.b:Int)
noncomputable def yZ(c:List Nat)(ts:Nat):Nat→Nat
 | 0=>0
 | j+1=>yZ c ts j+(ts+j) / ts * c.getD (ts+j) 0
noncomputable def aE(s:mS)(ts:Nat):Nat:=s.b+ts * (yZ s.c ts (s.c.length - ts)+s.nt)
noncomputable def gc(s t:mS):Bool:=
 if s.n≥t.n then false else if s.c.length≤1∧t.c.length≤1 then decide (s.nt≤t.nt) else
 (List.range ((max (iN s) (iN t)).toNat)).all fun j=> !decide (aE s (2+j)≥aE t (2+j))
theorem DM(ok:bI K)(hh:hd.h=true)(hH:pE H.length H=true)(hx:x.length≤100)(h:k (y4 x) H):Pr prog w K (d+2) hd [.str x] (fun vs=>call (.ref 158) vs) H k kx:=by
 refine fH ?_;obtain⟨hb,top⟩:=hd;exists hh;refine am (fun q J=>?_) ((ok.wsF (113,1,["self","ws"]) ∅).at);revert q;refine ab fun o h1 h2=>?_;refine mj ok.ws (ok.wsM ("__init__",113) ∅) h1 h2 ?_;refine bp (ρ0:=[("self",.ins 158 H.length),("ws",.str x)]) (ok.wsF (113,1,["self","ws"]) ∅) rfl rfl fun env hsc=>?_;refine Ex.weaken (uV ok hsc hx (by walk_at "s") (fun fl J H'=>fl.val=.none∧DN H.length k (.ins 158 H.length) H') fun ρ τ=>⟨rfl,?_⟩);rw[List.set_append_right _ _ (Nat.le_refl _),Nat.sub_self,List.set_cons_zero,List.append_assoc];refine gK (u':=y4 x) hH ?_ h;refine .oi (ks:=mI) (l:=mM x (aQ x)) (Nat.le_refl _) (by walk_at "s") (aM.same _ ?_);exact gr rfl (gr (gr (aC _ ah (fun J=>rfl) _) rfl) rfl)
theorem dq(ok:bI K)(hm:name∈["raw","n","nt","norm","is_simple"])(hB:typeLookup (.type "object") (Str.ofString name)=pure none)(hu:(mI.zip (mM x s)).lookup (Str.ofString name)=some u)(hb:gk u=true)(h:k u H):Pr prog w K d hd [wsF x s] (gA (Str.ofString name)) H k kx:=qz ok hm hB hu hb h
theorem nV(ok:bI K)(hh:hd.h=true)(hc:s.c.length≤100)(h:k (.int (iN s)) H):Pr prog w K (d+1) hd [wsF x s] (fun vs=>call (.ref 120) vs) H k kx:=by
 obtain⟨hb,top⟩:=hd;exists hh;refine bp (ρ0:=[("self",wsF x s)]) (ok.wsF (120,2,["self"]) ∅) rfl rfl fun env hsc=>?_;walk_at "b";walk_at "mv";walk_at "asg";refine aI rfl ?_;walk_at "mv";refine dq ok (name:="norm") (u:=.tup [.tup (s.c.map ah),ah s.b]) ∅ oO ⋯ rfl ?_;refine de rfl (fun J h=>h) rfl rfl rfl ?_;apply ad hsc ⋯
 ·walk_at "d"
 apply ad hsc ⋯
 ·walk_at "d"
 refine mT ?_;walk_at "2";refine cQ ok hsc ⋯ vd rfl rfl ?_;walk_at "2";refine cQ ok hsc ⋯ eA rfl rfl ?_
 repeat walk_at "mv"
 refine mm (by walk_at "s";omega) ?_
 repeat walk_at "mv"
 refine s7 rfl ?_;rw[List.length_map];exact h
theorem y0(c:List Nat)(ts:Nat)(j:Nat)(h:(ts+j)≤100)(ht:1≤ts):(ts+j) / ts < 2 ^ 64:=Nat.lt_of_le_of_lt (Nat.div_le_self _ _) (by omega)
variable{ts:Nat}
theorem iM(ok:bI K)(hh:hd.h=true)(ht1:1≤ts)(ht2:ts≤2000)(hc:s.c.length≤100)(h:k (ah (aE s ts)) H):Pr prog w K (d+1) hd [wsF x s,ah ts] (fun vs=>call (.ref 127) vs) H k kx:=by
 obtain⟨hb,top⟩:=hd;exists hh;refine bp (ρ0:=[("self",wsF x s),("tabsize",ah ts)]) (ok.wsF (127,3,["self","tabsize"]) ∅) rfl rfl fun env hsc=>?_;walk_at "b";walk_at "mv";walk_at "asg";refine aI rfl ?_;walk_at "mv";refine dq ok (name:="norm") (u:=.tup [.tup (s.c.map ah),ah s.b]) ∅ oO ⋯ rfl ?_;refine de rfl (fun J h=>h) rfl rfl rfl ?_;apply ad hsc ⋯
 ·walk_at "d"
 apply ad hsc ⋯
 ·walk_at "d"
 refine mT ?_;walk_at "mv";walk_at "asg";walk_at "mv";apply ad hsc ⋯
 ·walk_at "d"
 walk_at "mv";refine dk (fun J=>rfl) ?_;refine cp ok hsc ⋯ aJ rfl rfl ?_;walk_at "3";refine cQ ok hsc ⋯ eA rfl rfl ?_
 repeat walk_at "mv"
 refine mm (by walk_at "s";omega) ?_;walk_at "mv";rw[List.length_map];refine⟨_,ez rfl ⟨by omega,by omega,by omega,by omega⟩,?_⟩;rw[show((s.c.length:Int) - (ts:Int)).toNat=s.c.length - ts from Int.toNat_sub ..];refine bG (fun j ρ H'=>H'=H∧ρ=[(.ofString "self",wsF x s),(.ofString "tabsize",ah ts),(.ofString "count",.tup (s.c.map ah)),(.ofString "trailing",ah s.b),(.ofString "il",ah (yZ s.c ts j))]) ?_ ⟨rfl,?_⟩ ?_
 ·rintro j u ρ H' hu ⟨rfl,rfl⟩;rw[List.getElem?_map] at hu
  have hj:j < s.c.length - ts:=by
   rcases Nat.lt_or_ge j (s.c.length - ts) with q | q
   ·exact q
   ·rw[List.getElem?_eq_none (by simpa using q)] at hu;exists hu
  obtain rfl:ah (ts+j)=u:=by
   rw[List.getElem?_range hj] at hu;rw[←Option.some.inj hu];show V.int ((ts+j:Nat):Int)=V.int ((ts:Int)+(j:Int));congr 1
  apply ad hsc ⋯
  ·walk_at "d"
  walk_at "mv";walk_at "asg";walk_at "6";refine sZ rfl (by omega) (Nat.lt_of_le_of_lt ht2 (by decide)) ?_;walk_at "ixn"
  repeat walk_at "mv"
  have hj':=Nat.add_lt_of_lt_sub' hj;refine⟨_,ts+j,ah (s.c.getD (ts+j) 0),.t,rfl,?_,by walk_at "s";omega,?_⟩
  ·rw[List.getElem?_map,List.getD_eq_getElem?_getD,List.getElem?_eq_getElem hj'];rfl
  refine oS (y0 s.c ts j (Nat.le_trans (Nat.le_of_lt hj') hc) ht1) ?_;refine mi ?_;apply ad hsc ⋯
  ·walk_at "d"
  refine an ⟨_,?_,rfl,rfl⟩;walk_at "in"
 ·rfl
 ·rintro ρ' H' ⟨rfl,rfl⟩;rw[List.length_map,List.length_range];walk_at "8";refine aI rfl ?_;walk_at "mv";refine dq ok (name:="nt") (u:=ah s.nt) ∅ sS ⋯ rfl ?_;refine mi ?_;refine oS (Nat.lt_of_le_of_lt ht2 (by decide)) ?_;refine mi ?_;exact h
theorem mK(h:s.c.length≤100∧s.b≤100):0≤iN s∧iN s≤100:=⟨Int.le_trans (Int.natCast_nonneg _) (Int.le_max_right _ _),Int.max_le.mpr ⟨by omega,by omega⟩⟩
theorem uW(ok:bI K)(hh:hd.h=true){t:mS}(hs:s.c.length≤100∧s.b≤100)(ht:t.c.length≤100∧t.b≤100)(h:k (.bool (gc s t)) H):Pr prog w K (d+2) hd [wsF x s,wsF y t] (fun vs=>call (.ref 148) vs) H k kx:=by
 obtain⟨hb,top⟩:=hd;exists hh;refine bp (ρ0:=[("self",wsF x s),("other",wsF y t)]) (ok.wsF (148,6,["self","other"]) ∅) rfl rfl fun env hsc=>?_;walk_at "b";obtain⟨y1,hB1⟩:=rl;obtain⟨y2,hB2⟩:=nF;have hF1:=(ok.wsF (120,2,["self"]) ∅).at
 have hF2:=(ok.wsF (127,3,["self","tabsize"]) ∅).at
 unfold gc at h;walk_at "3";refine aI rfl ?_;walk_at "mv";refine dq ok (name:="n") (u:=ah s.n) ∅ A7 ⋯ rfl ?_;refine aI rfl ?_;walk_at "mv";refine dq ok (name:="n") (u:=ah t.n) ∅ A7 ⋯ rfl ?_;refine wM ?_;walk_at "mv"
 by_cases h1:s.n≥t.n
 ·rw[decide_eq_true h1];rw[if_pos h1] at h;walk_at "3";exact h
 rw[decide_eq_false h1];rw[if_neg h1] at h;walk_at "2";refine Ex.weaken (ks:=fun fl ρ H'=>H=H'∧((s.c.length≤1∧t.c.length≤1∧fl=.ret (.bool (decide (s.nt≤t.nt))))∨(¬ (s.c.length≤1∧t.c.length≤1)∧fl=.next∧ρ=[(.ofString "self",wsF x s),(.ofString "other",wsF y t)]))) (kxs:=fun J J J=>False) ?_ ?_
 ·walk_at "mv";refine vx (iR ?_);refine bY rfl ?_;refine aI rfl ?_;walk_at "mv";refine dq ok (name:="is_simple") (u:=.bool (decide (s.c.length≤1))) ∅ fX ⋯ rfl ?_;walk_at "mv"
  by_cases h2:s.c.length≤1
  ·rw[decide_eq_true h2];refine iR ?_;refine bY rfl ?_;refine aI rfl ?_;walk_at "mv";refine dq ok (name:="is_simple") (u:=.bool (decide (t.c.length≤1))) ∅ fX ⋯ rfl ?_;walk_at "mv"
   by_cases h3:t.c.length≤1
   ·rw[decide_eq_true h3];refine iQ ?_;rw[show(BoolOp.And==BoolOp.And)=true from rfl];walk_at "3";refine aI rfl ?_;walk_at "mv";refine dq ok (name:="nt") (u:=ah s.nt) ∅ sS ⋯ rfl ?_;refine aI rfl ?_;walk_at "mv";refine dq ok (name:="nt") (u:=ah t.nt) ∅ sS ⋯ rfl ?_;refine wS ?_;exact⟨rfl,.inl ⟨h2,h3,rfl⟩⟩
   ·rw[decide_eq_false h3];exact an ⟨rfl,.inr ⟨fun q=>h3 q.2,rfl,rfl⟩⟩
  ·rw[decide_eq_false h2];exact an ⟨rfl,.inr ⟨fun q=>h2 q.1,rfl,rfl⟩⟩
 rintro fl ρ H' ⟨rfl,⟨h2,h3,rfl⟩ | ⟨h2,rfl,rfl⟩⟩
 ·rw[if_pos ⟨h2,h3⟩] at h;exact h
 rw[if_neg h2] at h;walk_at "mv";walk_at "asg";walk_at "mv";refine cQ ok hsc ⋯ vd rfl rfl ?_;walk_at "mv";refine hJ rfl hF1.2 ?_;walk_at "mv";refine⟨nX ok ∅ hF1.1 hB1 ∅,?_⟩;refine nV ok rfl hs.1 ?_;walk_at "mv";refine hJ rfl hF1.2 ?_;walk_at "mv";refine⟨nX ok ∅ hF1.1 hB1 ∅,?_⟩;refine nV ok rfl ht.1 ?_;walk_at "mv";refine s7 rfl ?_;generalize hN:max (iN s) (iN t)=N at h
 have hN0:0≤N∧N≤100:=by
  rw[←hN];exact⟨Int.le_trans (mK hs).1 (Int.le_max_left _ _),Int.max_le.mpr ⟨(mK hs).2,(mK ht).2⟩⟩
 walk_at "2";apply ad hsc ⋯
 ·walk_at "d"
 walk_at "mv";refine dk (fun J=>rfl) ?_;refine cp ok hsc ⋯ aJ rfl rfl ?_;walk_at "8";refine⟨_,ez rfl ⟨by omega,by omega,by omega,by omega⟩,?_⟩;rw[show(N+1+1 - 2).toNat=N.toNat from congrArg _ (by rw[Int.add_assoc];exact Int.add_sub_cancel N 2)];refine bG (fun j ρ H'=>H'=H∧j≤N.toNat∧(∀ i,i < j→¬ aE s (2+i)≥aE t (2+i))∧ρ=[(.ofString "self",wsF x s),(.ofString "other",wsF y t),(.ofString "n",.int (N+1))]) ?_ ⟨rfl,Nat.zero_le _,fun i hi=>absurd hi (Nat.not_lt_zero i),rfl⟩ ?_
 ·rintro j u ρ H' hu ⟨rfl,hj',hall,rfl⟩;rw[List.getElem?_map] at hu
  have hj:j < N.toNat:=by
   rcases Nat.lt_or_ge j N.toNat with q | q
   ·exact q
   ·rw[List.getElem?_eq_none (by simpa using q)] at hu;exists hu
  obtain rfl:ah (2+j)=u:=by
   rw[List.getElem?_range hj] at hu;rw[←Option.some.inj hu];show V.int ((2+j:Nat):Int)=V.int ((2:Int)+(j:Int));congr 1
  apply ad hsc ⋯
  ·walk_at "d"
  walk_at "3";refine bZ rfl rfl rfl hF2.2 ?_;walk_at "mv";refine⟨nX ok ∅ hF2.1 hB2 ∅,?_⟩
  repeat walk_at "mv"
  have h2:1≤2+j∧2+j≤2000:=⟨Nat.le_add_right_of_le (by decide),Nat.le_trans (Nat.add_le_add_left (Nat.le_trans hj' (Int.toNat_le.mpr hN0.2)) 2) (by decide)⟩;refine iM ok rfl h2.1 h2.2 hs.1 ?_;refine bZ rfl rfl rfl hF2.2 ?_;walk_at "mv";refine⟨nX ok ∅ hF2.1 hB2 ∅,?_⟩
  repeat walk_at "mv"
  refine iM ok rfl h2.1 h2.2 ht.1 ?_;refine wM ?_;walk_at "mv"
  by_cases h4:aE s (2+j)≥aE t (2+j)
  ·rw[decide_eq_true h4]
   have e:((List.range N.toNat).all fun j=> !decide (aE s (2+j)≥aE t (2+j)))=false:=by
    rw[List.all_eq_false];exact⟨j,List.mem_range.mpr hj,by simp[h4]⟩
   rw[e] at h;walk_at "3";exact h
  ·rw[decide_eq_false h4];refine an ?_;refine an ⟨_,?_,rfl,by omega,fun i hi=>?_,rfl⟩
   ·walk_at "in"
   ·rcases Nat.lt_or_eq_of_le (Nat.le_of_lt_succ hi) with q | q
    ·exact hall i q
    ·exact q▸h4
 ·rintro ρ' H' ⟨rfl,_,hall,rfl⟩;rw[List.length_map,List.length_range] at hall
  have e:((List.range N.toNat).all fun j=> !decide (aE s (2+j)≥aE t (2+j)))=true:=by
   rw[List.all_eq_true];intro j hj;rw[decide_eq_false (hall j (List.mem_range.mp hj))];rfl
  rw[e] at h
  repeat walk_at "mv"
  exact h
variable{kx:X→Hp→Prop}
noncomputable def jW(p:Str × Str):Prop:=p.1.length≤1000∧p.2.length≤1000
noncomputable def gh(ps:List (Str × Str))(x:Str):List Str:=(ps.filter fun p=>Txt.lower p.1==Txt.lower x).map (·.2)
noncomputable def lL(ps:List (Str × Str))(x dflt:Str):Str:=((ps.find? fun p=>Txt.lower p.1==Txt.lower x).map (·.2)).getD dflt
theorem lP(ok:bI K)(hh:hd.h=true)(hl:ps.length≤1000)(hp:∀ p∈ps,jW p)(hx:x.length≤1000)(hx1:(Txt.lower x).cps.size≤1000)(hx2:(Txt.lower x).cps.any aW=false)(h:k (.lst ((gh ps x).map V.str)) H):
  Pr prog w K (d+2) hd [hsF ps,.str x] (fun vs=>call (.ref 245) vs) H k kx:=by
 obtain⟨hb,top⟩:=hd;exists hh;obtain⟨hcv,hck⟩:=ok.hsConv.at
 refine bp (ρ0:=[("self",hsF ps),("name",.str x)]) (ok.hsF (245,7,["self","name"]) ∅) rfl rfl fun env hsc=>?_;walk_at "b";walk_at "mv";walk_at "asg";refine dD (n:=2) (names:=[Str.ofString "name"]) rfl rfl rfl hck rfl rfl rfl ?_;walk_at "mv";refine⟨bN ok ∅ hcv fW ∅,?_⟩;walk_at "mv";refine fy (id:="str.lower") rfl ?_;walk_at "mv";refine⟨jc,jr (by omega) ?_⟩;walk_at "mv";refine⟨rfl,eU (fN (gG ?_))⟩;refine fv ok rfl hx1 (fun J=>?_) (fun qq=>by rw[show nZ true=aW from rfl,hx2] at qq;exists qq);apply ad hsc ⋯
 ·walk_at "d"
 walk_at "2";refine au hsc (fun g' hg'=>by simp at hg';subst hg';exact⟨rfl,fun J J=>rfl⟩) ⋯ (ag.skip (ag.take ⋯ ag.nil)) ?_;refine aX (aI rfl ?_);walk_at "mv";refine eZ ok (u:=.lst (ps.map gu)) ⋯ rfl ?_;refine⟨_,aS rfl,fun cenv Xw hc=>?_⟩;refine kj hc (fun u=>match u with | .tup [_,v]=>v | u=>u) (fun u=>match u with | .tup [.str a,_]=>Txt.lower a==Txt.lower x | _=>false) ⋯ ⋯ (by simpa using hl) ?_ ?_ ?_
 ·intro u hu;refine ab (fun p hpm t=>?_) (List.mem_map.mp hu);obtain rfl:=t;have hpk:=hp p hpm;walk_at "mv";refine fy (id:="str.lower") rfl ?_;walk_at "ixn";walk_at "2";refine⟨_,0,.str p.1,.t,rfl,rfl,by walk_at "s",?_⟩;refine⟨jc,jr (by have:=hpk.1;omega) ?_⟩
  repeat walk_at "mv"
  exact⟨rfl,rfl⟩
 ·intro u hu J;refine ab (fun p hpm t=>?_) (List.mem_map.mp hu);obtain rfl:=t;walk_at "ixn";walk_at "2";exact⟨_,1,.str p.2,.t,rfl,rfl,by walk_at "s",rfl,rfl⟩
 ·intro ρ
  have e:(((ps.map gu).filter fun u=>match u with | .tup [.str a,_]=>Txt.lower a==Txt.lower x | _=>false).map fun u=>match u with | .tup [_,v]=>v | u=>u)=(gh ps x).map V.str:=by
   unfold gh;rw[List.filter_map,List.map_map,List.map_map];rfl
  rw[e];exact h
theorem v7(ok:bI K)(hh:hd.h=true){dflt:Str}(hl:ps.length≤1000)(hp:∀ p∈ps,jW p)(hx:x.length≤1000)(hx1:(Txt.lower x).cps.size≤1000)(hx2:(Txt.lower x).cps.any aW=false)(h:k (.str (lL ps x dflt)) H):
  Pr prog w K (d+2) hd [hsF ps,.str x,.str dflt] (fun vs=>call (.ref 253) vs) H k kx:=by
 obtain⟨hb,top⟩:=hd;exists hh;obtain⟨hcv,hck⟩:=ok.hsConv.at
 refine kh (ar:=fun vs=>⟨vs,[]⟩) (ρ0:=[("self",hsF ps),("name",.str x),("default",.str dflt)]) (ys:=[hsF ps,.str x,.str dflt]) ok.hsGet rfl rfl (fun fd hb=>u8 hb rfl (fun J J J J vs q=>q)) fun env hsc=>?_;walk_at "b";walk_at "mv";walk_at "asg";refine dD (n:=2) (names:=[Str.ofString "name"]) rfl rfl rfl hck rfl rfl rfl ?_;walk_at "mv";refine⟨bN ok ∅ hcv fW ∅,?_⟩;walk_at "mv";refine fy (id:="str.lower") rfl ?_;walk_at "mv";refine⟨jc,jr (by omega) ?_⟩;walk_at "mv";refine⟨rfl,eU (fN (gG ?_))⟩;refine fv ok rfl hx1 (fun J=>?_) (fun qq=>by rw[show nZ true=aW from rfl,hx2] at qq;exists qq);apply ad hsc ⋯
 ·walk_at "d"
 walk_at "mv";refine Ex.weaken (ks:=fun fl ρ H'=>H=H'∧((∃ y,ps.find? (fun p=>Txt.lower p.1==Txt.lower x)=some y∧fl=.ret (.str y.2))∨(ps.find? (fun p=>Txt.lower p.1==Txt.lower x)=none∧fl=.next∧ρ=[(.ofString "self",hsF ps),(.ofString "name",.str (Txt.lower x)),(.ofString "default",.str dflt)]))) (kxs:=fun J J J=>False) ?_ ?_
 ·refine dk (fun J=>rfl) ?_;refine aX (aI rfl ?_);walk_at "mv";refine eZ ok (u:=.lst (ps.map gu)) ⋯ rfl ?_;refine⟨_,oC rfl,?_⟩;refine bG (fun i ρ H'=>H=H'∧(∀ p∈ps.take i,(Txt.lower p.1==Txt.lower x)=false)∧ρ=[(.ofString "self",hsF ps),(.ofString "name",.str (Txt.lower x)),(.ofString "default",.str dflt)]) ?_ ⟨rfl,by walk_at "s",rfl⟩ ?_
  ·rintro i u ρ H' hu ⟨rfl,hno,rfl⟩;rw[List.getElem?_map] at hu;refine ab (fun p hpi t=>?_) (Option.map_eq_some_iff.mp hu);obtain rfl:=t;have hpk:=hp p (List.mem_of_getElem? hpi);rw[show gu p=V.tup [.str p.1,.str p.2] from rfl];refine de rfl (fun J h=>h) rfl rfl rfl ?_;apply ad hsc ⋯
   ·walk_at "d"
   apply ad hsc ⋯
   ·walk_at "d"
   refine mT ?_;walk_at "3";refine fy (id:="str.lower") rfl ?_;walk_at "mv";refine⟨jc,jr (by have:=hpk.1;omega) ?_⟩
   repeat walk_at "mv"
   have hlt:i < ps.length:=(List.getElem?_eq_some_iff.mp hpi).1
   have hsplit:ps=ps.take i++p::ps.drop (i+1):=by
    conv=>lhs;rw[←List.take_append_drop i ps,on hpi]
   cases hb:(Txt.lower p.1==Txt.lower x) with
   | true=>
    walk_at "3";refine⟨rfl,.inl ⟨p,?_,rfl⟩⟩;rw[hsplit,List.find?_append,List.find?_eq_none.mpr (fun a ha=>by rw[hno a ha];decide),Option.none_or,List.find?_cons,hb]
   | false=>
    refine an ?_;refine an ⟨_,?_,rfl,?_,rfl⟩
    ·intro q hq;simp only[List.mem_cons,List.not_mem_nil,or_false] at hq ⊢;rcases hq with rfl | rfl | rfl
     ·exact .inl rfl
     ·exact .inr (.inl rfl)
     ·exact .inr (.inr (.inl rfl))
    ·intro a ha;rw[List.take_add_one,hpi] at ha;rcases List.mem_append.mp ha with ha | ha
     ·exact hno a ha
     ·have:a=p:=by simpa using ha
      exact this▸hb
  ·rintro ρ' H' ⟨rfl,hno,rfl⟩;refine⟨rfl,.inr ⟨?_,rfl,rfl⟩⟩;rw[List.length_map,List.take_length] at hno;exact List.find?_eq_none.mpr fun a ha=>by rw[hno a ha];decide
 ·rintro fl ρ H' ⟨rfl,⟨y,hy,rfl⟩ | ⟨hn,rfl,rfl⟩⟩
  ·have e:lL ps x dflt=y.2:=by unfold lL;rw[hy];rfl
   rw[e] at h;exact h
  ·have e:lL ps x dflt=dflt:=by unfold lL;rw[hn];rfl
   rw[e] at h
   repeat walk_at "mv"
   exact h
variable{kx:X→Hp→Prop}
noncomputable def bw:List (Str × Str)→Str→Str
 | [],x=>x
 | p::l,x=>bw l (xB p.1 p.2 x)
noncomputable def cx:List (Str × Str)→Str→Bool
 | [],_=>true
 | p::l,x=>decide (x.length+(x.length+1) * p.2.length≤16777216)&&cx l (xB p.1 p.2 x)
inductive uZ:V→Str→Prop
 | none:uZ .none (Str.ofString "cannot serialize None (type NoneType)")
 | int:uZ (.int 7) (Str.ofString "cannot serialize 7 (type int)")
 | lst:uZ (.lst [.str (Str.ofString "&")]) (Str.ofString "cannot serialize ['&'] (type list)")
theorem j6(ok:bI K){rep q:Str}{T:String}(hrep:∀ {hd:Hd} {k:V→Hp→Prop} {kx:X→Hp→Prop},k (.str rep) H→Pr prog w K (d+1) hd [u] qk H k kx)(hT:Bx u=some T)(hnm:∀ {hd:Hd} {k:V→Hp→Prop} {kx:X→Hp→Prop},k (.str q) H→Pr prog w K (d+1) hd [.ty T] (gA (Str.ofString "__name__")) H k kx)(hl1:rep.length≤100)(hl2:q.length≤100)(hm:Str.ofString "cannot serialize "++rep++Str.ofString " (type "++q++Str.ofString ")"=msg)(h:kx ⟨"TypeError",[.str msg]⟩ H):
  Pr prog w K (d+2) hd [u] (fun vs=>call (.ref 61) vs) H k kx:=by
 refine bp (ρ0:=[("text",u)]) (ok.fn (61,5,["text"]) ∅) rfl rfl fun env hsc=>?_;walk_at "f";walk_at "mv";refine i9 F.excCall_TypeError F.excRaise_TypeError (d7 hsc ⋯) (ok.blt "TypeError" ∅) eh ∅ ⋯ rfl rfl ?_;walk_at "mv";refine tV (ji (fP ?_));have n1:(Str.ofString "cannot serialize ").length=17:=by kernel_rfl
 have n2:(Str.ofString " (type ").length=7:=by kernel_rfl
 have n3:(Str.ofString ")").length=1:=by kernel_rfl
 have e0:(Str.empty++Str.ofString "cannot serialize ")=Str.ofString "cannot serialize ":=by kernel_rfl
 have big:(500:Nat)≤sizeLine:=by decide
 have la:∀ a b:Str,(a++b).length=a.length+b.length:=fun a b=>by show(a.cps++b.cps).size=_;rw[Array.size_append];rfl
 refine⟨_,rfl,by rw[e0,n1];omega,?_⟩;rw[e0];refine ji (qP (cm (by walk_at "g") (hrep ⟨⟨rep,rfl,by omega⟩,rep,rfl,by rw[la,n1];omega,?_⟩)));refine ji (fP ⟨_,rfl,by rw[la,la,n1,n2];omega,?_⟩);refine ji (qQ (aI rfl ?_));refine iq ok hsc ⋯ iV rfl rfl ?_
 repeat walk_at "mv"
 refine oY hT ?_;refine hnm ⟨⟨q,rfl,by omega⟩,q,rfl,by rw[la,la,la,n1,n2];omega,?_⟩;refine ji (fP ⟨_,rfl,by rw[la,la,la,la,n1,n2,n3];omega,?_⟩);refine AK (by rw[la,la,la,la,n1,n2,n3];omega) ?_;rw[hm];walk_at "mv";exact⟨by walk_at "s",h⟩
theorem bh(ok:bI K)(hu:uZ u msg)(h:kx ⟨"TypeError",[.str msg]⟩ H):Pr prog w K (d+2) hd [u] (fun vs=>call (.ref 61) vs) H k kx:=by
 cases hu with
 | none=>exact j6 ok (rep:=Str.ofString "None") (q:=Str.ofString "NoneType") (T:="NoneType") (fun h=>oV h) rfl (fun h=>j4 (T:="NoneType") (q:="NoneType") ∅ ∅ ⋯ ⋯ ∅ h) ∅ ∅ ⋯ h
 | int=>exact j6 ok (rep:=Str.ofString "7") (q:=Str.ofString "int") (T:="int") (fun h=>qc ∅ (by rw[show((toString (7:Int):String):Str)=Str.ofString "7" from by kernel_rfl];exact h)) rfl (fun h=>j4 (T:="int") (q:="int") ∅ ∅ ⋯ ⋯ ∅ h) ∅ ∅ ⋯ h
 | lst=>
  have e:(V.lst [.str (Str.ofString "&")]).dat.shown=Str.ofString "['&']":=by walk_at "k"
  exact j6 ok (rep:=Str.ofString "['&']") (q:=Str.ofString "list") (T:="list") (fun h=>qd ∅ ∅ ∅ ∅ (by rw[e];walk_at "k") (by rw[e];exact h)) rfl (fun h=>j4 (T:="list") (q:="list") ∅ ∅ ⋯ ⋯ ∅ h) ∅ ∅ ⋯ h
noncomputable def pk:List (Str × Str):=[(Str.ofString "&",Str.ofString "&amp;"),(Str.ofString "<",Str.ofString "&lt;"),(Str.ofString ">",Str.ofString "&gt;")]
theorem tI(ok:bI K)(hh:hd.h=true)(hx:cx pk x=true)(h:k (.str (bw pk x)) H):Pr prog w K (d+1) hd [.str x] (fun vs=>call (.ref 68) vs) H k kx:=by
 obtain⟨hb,top⟩:=hd;exists hh;refine bp (ρ0:=[("text",.str x)]) (ok.fn (68,6,["text"]) ∅) rfl rfl fun env hsc=>?_;walk_at "f";simp only[pk,cx,Bool.and_eq_true,decide_eq_true_eq] at hx
 revert hx;refine fY fun l0 l1 l2 J=>?_
 walk_at "mv";refine cz rfl ?_;walk_at "mv";refine bg hsc ⋯ rfl rfl rfl rfl ∅ l0 ?_;walk_at "mv";refine bg hsc ⋯ rfl rfl rfl rfl ∅ l1 ?_;walk_at "mv";refine bg hsc ⋯ rfl rfl rfl rfl ∅ l2 ?_;walk_at "3";exact h
noncomputable def pn:List (Str × Str):=[(Str.ofString "&",Str.ofString "&amp;"),(Str.ofString "<",Str.ofString "&lt;"),(Str.ofString ">",Str.ofString "&gt;"),(Str.ofString "\"",Str.ofString "&quot;"),(Str.ofString "\r",Str.ofString "&#13;"),(Str.ofString "\n",Str.ofString "&#10;"),(Str.ofString "\t",Str.ofString "&#09;")]
theorem tL(ok:bI K)(hh:hd.h=true)(hx:cx pn x=true)(h:k (.str (bw pn x)) H):Pr prog w K (d+1) hd [.str x] (fun vs=>call (.ref 75) vs) H k kx:=by
 obtain⟨hb,top⟩:=hd;exists hh;refine bp (ρ0:=[("text",.str x)]) (ok.fn (75,7,["text"]) ∅) rfl rfl fun env hsc=>?_;walk_at "f";simp only[pn,cx,Bool.and_eq_true,decide_eq_true_eq] at hx
 revert hx;refine A8 fun l0 l1 l2 l3 l4 l5 l6 J=>?_
 walk_at "mv";refine cz rfl ?_;walk_at "mv";refine bg hsc ⋯ rfl rfl rfl rfl ∅ l0 ?_;walk_at "mv";refine bg hsc ⋯ rfl rfl rfl rfl ∅ l1 ?_;walk_at "mv";refine bg hsc ⋯ rfl rfl rfl rfl ∅ l2 ?_;walk_at "mv";refine bg hsc ⋯ rfl rfl rfl rfl ∅ l3 ?_;walk_at "mv";refine bg hsc ⋯ rfl rfl rfl rfl ∅ l4 ?_;walk_at "mv";refine bg hsc ⋯ rfl rfl rfl rfl ∅ l5 ?_;walk_at "mv";refine bg hsc ⋯ rfl rfl rfl rfl ∅ l6 ?_;walk_at "3";exact h
noncomputable def po:List (Str × Str):=[(Str.ofString "&",Str.ofString "&amp;"),(Str.ofString ">",Str.ofString "&gt;"),(Str.ofString "\"",Str.ofString "&quot;")]
theorem tN(ok:bI K)(hh:hd.h=true)(hx:cx po x=true)(h:k (.str (bw po x)) H):Pr prog w K (d+1) hd [.str x] (fun vs=>call (.ref 82) vs) H k kx:=by
 obtain⟨hb,top⟩:=hd;exists hh;refine bp (ρ0:=[("text",.str x)]) (ok.fn (82,8,["text"]) ∅) rfl rfl fun env hsc=>?_;walk_at "f";simp only[po,cx,Bool.and_eq_true,decide_eq_true_eq] at hx
 revert hx;refine fY fun l0 l1 l2 J=>?_
 walk_at "mv";refine cz rfl ?_;walk_at "mv";refine bg hsc ⋯ rfl rfl rfl rfl ∅ l0 ?_;walk_at "mv";refine bg hsc ⋯ rfl rfl rfl rfl ∅ l1 ?_;walk_at "mv";refine bg hsc ⋯ rfl rfl rfl rfl ∅ l2 ?_;walk_at "3";exact h
noncomputable def pp:List (Str × Str):=[(Str.ofString "&",Str.ofString "&amp;"),(Str.ofString "<",Str.ofString "&lt;"),(Str.ofString ">",Str.ofString "&gt;"),(Str.ofString "\r",Str.ofString "&#xD;")]
theorem tP(ok:bI K)(hh:hd.h=true)(hx:cx pp x=true)(h:k (.str (bw pp x)) H):Pr prog w K (d+1) hd [.str x] (fun vs=>call (.ref 89) vs) H k kx:=by
 obtain⟨hb,top⟩:=hd;exists hh;refine bp (ρ0:=[("text",.str x)]) (ok.fn (89,9,["text"]) ∅) rfl rfl fun env hsc=>?_;walk_at "f";simp only[pp,cx,Bool.and_eq_true,decide_eq_true_eq] at hx
 revert hx;refine EN fun l0 l1 l2 l3 J=>?_
 walk_at "mv";refine cz rfl ?_;walk_at "mv";refine bg hsc ⋯ rfl rfl rfl rfl ∅ l0 ?_;walk_at "mv";refine bg hsc ⋯ rfl rfl rfl rfl ∅ l1 ?_;walk_at "mv";refine bg hsc ⋯ rfl rfl rfl rfl ∅ l2 ?_;walk_at "mv";refine bg hsc ⋯ rfl rfl rfl rfl ∅ l3 ?_;walk_at "3";exact h
noncomputable def pq:List (Str × Str):=[(Str.ofString "&",Str.ofString "&amp;"),(Str.ofString "<",Str.ofString "&lt;"),(Str.ofString "\"",Str.ofString "&quot;"),(Str.ofString "\t",Str.ofString "&#x9;"),(Str.ofString "\n",Str.ofString "&#xA;"),(Str.ofString "\r",Str.ofString "&#xD;")]
theorem tR(ok:bI K)(hh:hd.h=true)(hx:cx pq x=true)(h:k (.str (bw pq x)) H):Pr prog w K (d+1) hd [.str x] (fun vs=>call (.ref 96) vs) H k kx:=by
 obtain⟨hb,top⟩:=hd;exists hh;refine bp (ρ0:=[("text",.str x)]) (ok.fn (96,10,["text"]) ∅) rfl rfl fun env hsc=>?_;walk_at "f";simp only[pq,cx,Bool.and_eq_true,decide_eq_true_eq] at hx
 revert hx;refine DC fun l0 l1 l2 l3 l4 l5 J=>?_
 walk_at "mv";refine cz rfl ?_;walk_at "mv";refine bg hsc ⋯ rfl rfl rfl rfl ∅ l0 ?_;walk_at "mv";refine bg hsc ⋯ rfl rfl rfl rfl ∅ l1 ?_;walk_at "mv";refine bg hsc ⋯ rfl rfl rfl rfl ∅ l2 ?_;walk_at "mv";refine bg hsc ⋯ rfl rfl rfl rfl ∅ l3 ?_;walk_at "mv";refine bg hsc ⋯ rfl rfl rfl rfl ∅ l4 ?_;walk_at "mv";refine bg hsc ⋯ rfl rfl rfl rfl ∅ l5 ?_;walk_at "3";exact h
theorem rL:isSubtype (.type "TypeError") (.type "BaseException")=pure true:=by rw[isSubtype_type];kernel_rfl
theorem Bl:isSubtype (.type "AttributeError") (.type "BaseException")=pure true:=by rw[isSubtype_type];kernel_rfl
theorem eO:isSubtype (.type "TypeError") (.type "TypeError")=pure true:=by rw[isSubtype_type];kernel_rfl
theorem fu:isSubtype (.type "TypeError") (.type "AttributeError")=pure false:=by rw[isSubtype_type];kernel_rfl
theorem my:isSubtype (.type "AttributeError") (.type "TypeError")=pure false:=by rw[isSubtype_type];kernel_rfl
theorem mx:isSubtype (.type "AttributeError") (.type "AttributeError")=pure true:=by rw[isSubtype_type];kernel_rfl
theorem AX:isSubtype (.type ((Manifest.find? "TypeError").elim "type" fun x=>x.metatype)) (.type "tuple")=pure false:=by rw[find?_eq_fast,isSubtype_type];kernel_rfl
theorem EF:isSubtype (.type ((Manifest.find? "AttributeError").elim "type" fun x=>x.metatype)) (.type "tuple")=pure false:=by rw[find?_eq_fast,isSubtype_type];kernel_rfl
theorem cM(ok:bI K){Xw:List Addr}(hsc:Sc env sc Xw)(hl:sc.names.lookup (Str.ofString "_raise_serialization_error")=some .globalImplicit)(he:starEach (e::rest) env=(false,eval e env)::starEach rest env)(hplain:(backTo pos (starEach rest env)).any (·.1)=false)(h:Es prog w K d hd env ρ (spliced (backTo pos (starEach (e::rest) env))) H (tz prog w K d hd (fun vs=>call (.ref 61) vs) k kx) kx):Ev prog w K d hd env ρ (eval (.Call (.Name (Str.ofString "_raise_serialization_error") p) (e::rest) [] pos) env) H k kx:=
 eV ok hsc (x:="_raise_serialization_error") (a:=61) ∅ (ok.fn (61,5,["text"]) ∅).obj hl ⋯ he hplain h
theorem eF(ok:bI K){Xw:List Addr}(hsc:Sc env sc Xw){kf:Fl→ai→Hp→Prop}{kxf:X→ai→Hp→Prop}(ht:hd.top=some env){x:X}{rest:List ExceptHandler}(s1:isSubtype (.type x.cls) (.type "TypeError")=pure b1)(s2:isSubtype (.type x.cls) (.type "AttributeError")=pure b2)(hb:(b1 || b2)=true)(k1:sc.names.lookup (Str.ofString "TypeError")=some .globalImplicit)(k2:sc.names.lookup (Str.ofString "AttributeError")=some .globalImplicit)(h:Ex prog w K d ⟨false,hd.top⟩ env ρ (execs (b₀::suite) env) H kf kxf):
  Hn prog w K d hd env x ρ (.ExceptHandler (some (.Tuple [.Name (Str.ofString "TypeError") p1,.Name (Str.ofString "AttributeError") p2] kk tpos)) none (b₀::suite) pos::rest) H kf kxf:=
 xV ht rL AX Bl EF s1 s2 hb (d7 hsc k1) (ok.blt "TypeError" ∅) eh ∅ ⋯ (d7 hsc k2) (ok.blt "AttributeError" ∅) iS ∅ ⋯ h
theorem eG:((bA [V.str (Str.ofString "&")]).any fun y=>PyData.eqv y (V.str (Str.ofString "&")).dat)=true:=by walk_at "k"
theorem dp:typeLookup (.type "list") (Str.ofString "replace")=pure none:=by rw[typeLookup_type,builtinLookup_eq_fast];kernel_rfl
theorem wa:((bA [V.str (Str.ofString "x")]).any fun y=>PyData.eqv y (V.str (Str.ofString "\t")).dat)=false:=by walk_at "k"
theorem sG:((bA [V.str (Str.ofString "x")]).any fun y=>PyData.eqv y (V.str (Str.ofString "\n")).dat)=false:=by walk_at "k"
theorem oA:((bA [V.str (Str.ofString "x")]).any fun y=>PyData.eqv y (V.str (Str.ofString "\r")).dat)=false:=by walk_at "k"
theorem oB:((bA [V.str (Str.ofString "x")]).any fun y=>PyData.eqv y (V.str (Str.ofString "\"")).dat)=false:=by walk_at "k"
theorem jf:((bA [V.str (Str.ofString "x")]).any fun y=>PyData.eqv y (V.str (Str.ofString "&")).dat)=false:=by walk_at "k"
theorem kX:((bA [V.str (Str.ofString "x")]).any fun y=>PyData.eqv y (V.str (Str.ofString "<")).dat)=false:=by walk_at "k"
theorem kY:((bA [V.str (Str.ofString "x")]).any fun y=>PyData.eqv y (V.str (Str.ofString ">")).dat)=false:=by walk_at "k"
theorem tH(ok:bI K)(hh:hd.h=true)(hu:uZ u msg)(h:kx ⟨"TypeError",[.str msg]⟩ H):Pr prog w K (d+3) hd [u] (fun vs=>call (.ref 68) vs) H k kx:=by
 obtain⟨hb,top⟩:=hd;exists hh;refine bp (ρ0:=[("text",u)]) (ok.fn (68,6,["text"]) ∅) rfl rfl fun env hsc=>?_;walk_at "f";walk_at "mv";refine cz rfl ?_;walk_at "5";have hu':=hu;cases hu' with
 | none=>
  refine bP rfl (.inl rfl) fun msg1=>?_;refine eF ok hsc rfl eO fu rfl ⋯ ⋯ ?_;walk_at "mv";refine aR rfl ?_;refine cM ok hsc ⋯ rfl rfl ?_;walk_at "3";exact bh ok hu h
 | int=>
  refine bP rfl (.inr ⟨7,rfl⟩) fun msg1=>?_;refine eF ok hsc rfl eO fu rfl ⋯ ⋯ ?_;walk_at "mv";refine aR rfl ?_;refine cM ok hsc ⋯ rfl rfl ?_;walk_at "3";exact bh ok hu h
 | lst=>
  walk_at "p";rw[eG];walk_at "2";walk_at "asg";refine dh rfl rfl dp ∅ ∅ ?_;walk_at "mv";refine⟨⟨_,rfl⟩,fun msg1=>?_⟩;refine eF ok hsc rfl my mx rfl ⋯ ⋯ ?_;walk_at "mv";refine aR rfl ?_;refine cM ok hsc ⋯ rfl rfl ?_;walk_at "3";exact bh ok hu h
noncomputable abbrev vv:Str×V:=("text",.lst [.str (Str.ofString "x")])
theorem xC(ok:bI K)(hh:hd.h=true)(h:k (.lst [.str (Str.ofString "x")]) H):Pr prog w K (d+2) hd [.lst [.str (Str.ofString "x")]] (fun vs=>call (.ref 68) vs) H k kx:=by
 obtain⟨hb,top⟩:=hd;exists hh;refine bp (ρ0:=[vv]) (ok.fn (68,6,["text"]) ∅) rfl rfl fun env hsc=>?_;walk_at "f";walk_at "mv";refine cz rfl ?_;walk_at "5";walk_at "p";rw[jf];walk_at "mv";refine an ?_;walk_at "5";walk_at "p";rw[kX];walk_at "mv";refine an ?_;walk_at "5";walk_at "p";rw[kY];walk_at "mv";refine an ?_;walk_at "3";exact h
theorem tJ(ok:bI K)(hh:hd.h=true)(hu:uZ u msg)(h:kx ⟨"TypeError",[.str msg]⟩ H):Pr prog w K (d+3) hd [u] (fun vs=>call (.ref 75) vs) H k kx:=by
 obtain⟨hb,top⟩:=hd;exists hh;refine bp (ρ0:=[("text",u)]) (ok.fn (75,7,["text"]) ∅) rfl rfl fun env hsc=>?_;walk_at "f";walk_at "mv";refine cz rfl ?_;walk_at "5";have hu':=hu;cases hu' with
 | none=>
  refine bP rfl (.inl rfl) fun msg1=>?_;refine eF ok hsc rfl eO fu rfl ⋯ ⋯ ?_;walk_at "mv";refine aR rfl ?_;refine cM ok hsc ⋯ rfl rfl ?_;walk_at "3";exact bh ok hu h
 | int=>
  refine bP rfl (.inr ⟨7,rfl⟩) fun msg1=>?_;refine eF ok hsc rfl eO fu rfl ⋯ ⋯ ?_;walk_at "mv";refine aR rfl ?_;refine cM ok hsc ⋯ rfl rfl ?_;walk_at "3";exact bh ok hu h
 | lst=>
  walk_at "p";rw[eG];walk_at "2";walk_at "asg";refine dh rfl rfl dp ∅ ∅ ?_;walk_at "mv";refine⟨⟨_,rfl⟩,fun msg1=>?_⟩;refine eF ok hsc rfl my mx rfl ⋯ ⋯ ?_;walk_at "mv";refine aR rfl ?_;refine cM ok hsc ⋯ rfl rfl ?_;walk_at "3";exact bh ok hu h
theorem xD(ok:bI K)(hh:hd.h=true)(h:k (.lst [.str (Str.ofString "x")]) H):Pr prog w K (d+2) hd [.lst [.str (Str.ofString "x")]] (fun vs=>call (.ref 75) vs) H k kx:=by
 obtain⟨hb,top⟩:=hd;exists hh;refine bp (ρ0:=[vv]) (ok.fn (75,7,["text"]) ∅) rfl rfl fun env hsc=>?_;walk_at "f";walk_at "mv";refine cz rfl ?_;walk_at "5";walk_at "p";rw[jf];walk_at "mv";refine an ?_;walk_at "5";walk_at "p";rw[kX];walk_at "mv";refine an ?_;walk_at "5";walk_at "p";rw[kY];walk_at "mv";refine an ?_;walk_at "5";walk_at "p";rw[oB];walk_at "mv";refine an ?_;walk_at "5";walk_at "p";rw[oA];walk_at "mv";refine an ?_;walk_at "5";walk_at "p";rw[sG];walk_at "mv";refine an ?_;walk_at "5";walk_at "p";rw[wa];walk_at "mv";refine an ?_;walk_at "3";exact h
theorem tM(ok:bI K)(hh:hd.h=true)(hu:uZ u msg)(h:kx ⟨"TypeError",[.str msg]⟩ H):Pr prog w K (d+3) hd [u] (fun vs=>call (.ref 82) vs) H k kx:=by
 obtain⟨hb,top⟩:=hd;exists hh;refine bp (ρ0:=[("text",u)]) (ok.fn (82,8,["text"]) ∅) rfl rfl fun env hsc=>?_;walk_at "f";walk_at "mv";refine cz rfl ?_;walk_at "5";have hu':=hu;cases hu' with
 | none=>
  refine bP rfl (.inl rfl) fun msg1=>?_;refine eF ok hsc rfl eO fu rfl ⋯ ⋯ ?_;walk_at "mv";refine aR rfl ?_;refine cM ok hsc ⋯ rfl rfl ?_;walk_at "3";exact bh ok hu h
 | int=>
  refine bP rfl (.inr ⟨7,rfl⟩) fun msg1=>?_;refine eF ok hsc rfl eO fu rfl ⋯ ⋯ ?_;walk_at "mv";refine aR rfl ?_;refine cM ok hsc ⋯ rfl rfl ?_;walk_at "3";exact bh ok hu h
 | lst=>
  walk_at "p";rw[eG];walk_at "2";walk_at "asg";refine dh rfl rfl dp ∅ ∅ ?_;walk_at "mv";refine⟨⟨_,rfl⟩,fun msg1=>?_⟩;refine eF ok hsc rfl my mx rfl ⋯ ⋯ ?_;walk_at "mv";refine aR rfl ?_;refine cM ok hsc ⋯ rfl rfl ?_;walk_at "3";exact bh ok hu h
theorem xE(ok:bI K)(hh:hd.h=true)(h:k (.lst [.str (Str.ofString "x")]) H):Pr prog w K (d+2) hd [.lst [.str (Str.ofString "x")]] (fun vs=>call (.ref 82) vs) H k kx:=by
 obtain⟨hb,top⟩:=hd;exists hh;refine bp (ρ0:=[vv]) (ok.fn (82,8,["text"]) ∅) rfl rfl fun env hsc=>?_;walk_at "f";walk_at "mv";refine cz rfl ?_;walk_at "5";walk_at "p";rw[jf];walk_at "mv";refine an ?_;walk_at "5";walk_at "p";rw[kY];walk_at "mv";refine an ?_;walk_at "5";walk_at "p";rw[oB];walk_at "mv";refine an ?_;walk_at "3";exact h
theorem tO(ok:bI K)(hh:hd.h=true)(hu:uZ u msg)(h:kx ⟨"TypeError",[.str msg]⟩ H):Pr prog w K (d+3) hd [u] (fun vs=>call (.ref 89) vs) H k kx:=by
 obtain⟨hb,top⟩:=hd;exists hh;refine bp (ρ0:=[("text",u)]) (ok.fn (89,9,["text"]) ∅) rfl rfl fun env hsc=>?_;walk_at "f";walk_at "mv";refine cz rfl ?_;walk_at "5";have hu':=hu;cases hu' with
 | none=>
  refine bP rfl (.inl rfl) fun msg1=>?_;refine eF ok hsc rfl eO fu rfl ⋯ ⋯ ?_;walk_at "mv";refine aR rfl ?_;refine cM ok hsc ⋯ rfl rfl ?_;walk_at "3";exact bh ok hu h
 | int=>
  refine bP rfl (.inr ⟨7,rfl⟩) fun msg1=>?_;refine eF ok hsc rfl eO fu rfl ⋯ ⋯ ?_;walk_at "mv";refine aR rfl ?_;refine cM ok hsc ⋯ rfl rfl ?_;walk_at "3";exact bh ok hu h
 | lst=>
  walk_at "p";rw[eG];walk_at "2";walk_at "asg";refine dh rfl rfl dp ∅ ∅ ?_;walk_at "mv";refine⟨⟨_,rfl⟩,fun msg1=>?_⟩;refine eF ok hsc rfl my mx rfl ⋯ ⋯ ?_;walk_at "mv";refine aR rfl ?_;refine cM ok hsc ⋯ rfl rfl ?_;walk_at "3";exact bh ok hu h
theorem xF(ok:bI K)(hh:hd.h=true)(h:k (.lst [.str (Str.ofString "x")]) H):Pr prog w K (d+2) hd [.lst [.str (Str.ofString "x")]] (fun vs=>call (.ref 89) vs) H k kx:=by
 obtain⟨hb,top⟩:=hd;exists hh;refine bp (ρ0:=[vv]) (ok.fn (89,9,["text"]) ∅) rfl rfl fun env hsc=>?_;walk_at "f";walk_at "mv";refine cz rfl ?_;walk_at "5";walk_at "p";rw[jf];walk_at "mv";refine an ?_;walk_at "5";walk_at "p";rw[kX];walk_at "mv";refine an ?_;walk_at "5";walk_at "p";rw[kY];walk_at "mv";refine an ?_;walk_at "5";walk_at "p";rw[oA];walk_at "mv";refine an ?_;walk_at "3";exact h
theorem tQ(ok:bI K)(hh:hd.h=true)(hu:uZ u msg)(h:kx ⟨"TypeError",[.str msg]⟩ H):Pr prog w K (d+3) hd [u] (fun vs=>call (.ref 96) vs) H k kx:=by
 obtain⟨hb,top⟩:=hd;exists hh;refine bp (ρ0:=[("text",u)]) (ok.fn (96,10,["text"]) ∅) rfl rfl fun env hsc=>?_;walk_at "f";walk_at "mv";refine cz rfl ?_;walk_at "5";have hu':=hu;cases hu' with
 | none=>
  refine bP rfl (.inl rfl) fun msg1=>?_;refine eF ok hsc rfl eO fu rfl ⋯ ⋯ ?_;walk_at "mv";refine aR rfl ?_;refine cM ok hsc ⋯ rfl rfl ?_;walk_at "3";exact bh ok hu h
 | int=>
  refine bP rfl (.inr ⟨7,rfl⟩) fun msg1=>?_;refine eF ok hsc rfl eO fu rfl ⋯ ⋯ ?_;walk_at "mv";refine aR rfl ?_;refine cM ok hsc ⋯ rfl rfl ?_;walk_at "3";exact bh ok hu h
 | lst=>
  walk_at "p";rw[eG];walk_at "2";walk_at "asg";refine dh rfl rfl dp ∅ ∅ ?_;walk_at "mv";refine⟨⟨_,rfl⟩,fun msg1=>?_⟩;refine eF ok hsc rfl my mx rfl ⋯ ⋯ ?_;walk_at "mv";refine aR rfl ?_;refine cM ok hsc ⋯ rfl rfl ?_;walk_at "3";exact bh ok hu h
theorem xG(ok:bI K)(hh:hd.h=true)(h:k (.lst [.str (Str.ofString "x")]) H):Pr prog w K (d+2) hd [.lst [.str (Str.ofString "x")]] (fun vs=>call (.ref 96) vs) H k kx:=by
 obtain⟨hb,top⟩:=hd;exists hh;refine bp (ρ0:=[vv]) (ok.fn (96,10,["text"]) ∅) rfl rfl fun env hsc=>?_;walk_at "f";walk_at "mv";refine cz rfl ?_;walk_at "5";walk_at "p";rw[jf];walk_at "mv";refine an ?_;walk_at "5";walk_at "p";rw[kX];walk_at "mv";refine an ?_;walk_at "5";walk_at "p";rw[oB];walk_at "mv";refine an ?_;walk_at "5";walk_at "p";rw[wa];walk_at "mv";refine an ?_;walk_at "5";walk_at "p";rw[sG];walk_at "mv";refine an ?_;walk_at "5";walk_at "p";rw[oA];walk_at "mv";refine an ?_;walk_at "3";exact h
variable{kx:X→Hp→Prop}
noncomputable def yF:List Nat:=[112,100,98,101,97,99]
noncomputable def E7:List Nat:=[80,68,66,69,65,67]
noncomputable def bH(i:Nat):Str:=⟨#[yF.getD i 0]⟩
noncomputable def jD(i:Nat):Str:=⟨#[E7.getD i 0]⟩
theorem pZ(i:Nat)(h:i < 6):(Str.ofString "pdbeac").cps[((i:Nat):Int).toNat]? =some (yF.getD i 0):=by
 refine n6 ?_ ?_ ?_ ?_ ?_ ?_ i (Nat.le_of_lt_succ h) <;> kernel_rfl
theorem y6(i:Nat)(h:i < 6):(Str.ofString "PDBEAC").cps[((i:Nat):Int).toNat]? =some (E7.getD i 0):=by
 refine n6 ?_ ?_ ?_ ?_ ?_ ?_ i (Nat.le_of_lt_succ h) <;> kernel_rfl
theorem w4(i:Nat)(h:i < 6):Txt.upper (bH i)=jD i:=by
 refine n6 ?_ ?_ ?_ ?_ ?_ ?_ i (Nat.le_of_lt_succ h) <;> kernel_rfl
theorem ma(i:Nat)(h:i < 6):(bH i).cps.any aW=false∧(jD i).cps.any aW=false∧(bH i).cps.any aF=false∧(jD i).cps.any aF=false:=by
 revert i;walk_at "k"
noncomputable def bX:Str:=Str.ofString "-"
theorem xw:bX.cps.any aF=false:=by walk_at "k"
noncomputable def dl:List (Nat × List (Str × Str)):=[(68,pk),(75,pn),(82,po),(89,pp),(96,pq)]
inductive Wr (T:List (Str × Str)):V→Option (String × Str)→Str→Prop
 | ok {x:Str}:cx T x=true→(bw T x).cps.size≤1000→(bw T x).cps.any aF=false→Wr T (.str x) none (bw T x)
 | ctrl {x d:Str}:cx T x=true→(bw T x).cps.size≤1000→(bw T x).cps.any aF=true→Wr T (.str x) (some ("ValueError",iX)) d
 | unw {u:V} {msg d:Str}:uZ u msg→Wr T u (some ("TypeError",msg)) d
 | x {d:Str}:Wr T (.lst [.str (Str.ofString "x")]) (some ("AssertionError",eX)) d
variable{a:Nat}
theorem w6(ok:bI K)(hh:hd.h=true){T:List (Str × Str)}(hm:(a,T)∈dl)(hx:cx T x=true)(h:k (.str (bw T x)) H):Pr prog w K (d+1) hd [.str x] (fun vs=>call (.ref a) vs) H k kx:=by
 simp only[dl,List.mem_cons,List.not_mem_nil,or_false] at hm;rcases hm with hm | hm | hm | hm | hm <;> exists hm
 ·exact tI ok hh hx h
 ·exact tL ok hh hx h
 ·exact tN ok hh hx h
 ·exact tP ok hh hx h
 ·exact tR ok hh hx h
theorem By(ok:bI K)(hh:hd.h=true){T:List (Str × Str)}(hm:(a,T)∈dl)(hu:uZ u msg)(h:kx ⟨"TypeError",[.str msg]⟩ H):Pr prog w K (d+3) hd [u] (fun vs=>call (.ref a) vs) H k kx:=by
 simp only[dl,List.mem_cons,List.not_mem_nil,or_false] at hm;rcases hm with hm | hm | hm | hm | hm <;> exists hm
 ·exact tH ok hh hu h
 ·exact tJ ok hh hu h
 ·exact tM ok hh hu h
 ·exact tO ok hh hu h
 ·exact tQ ok hh hu h
theorem EX(ok:bI K)(hh:hd.h=true){T:List (Str × Str)}(hm:(a,T)∈dl)(h:k (.lst [.str (Str.ofString "x")]) H):Pr prog w K (d+2) hd [.lst [.str (Str.ofString "x")]] (fun vs=>call (.ref a) vs) H k kx:=by
 simp only[dl,List.mem_cons,List.not_mem_nil,or_false] at hm;rcases hm with hm | hm | hm | hm | hm <;> exists hm
 ·exact xC ok hh h
 ·exact xD ok hh h
 ·exact xE ok hh h
 ·exact xF ok hh h
 ·exact xG ok hh h
theorem yX(ok:bI K){T:List (Str × Str)}(hm:(a,T)∈dl):keepIn K (.ref a)=true:=by
 simp only[dl,List.mem_cons,List.not_mem_nil,or_false] at hm;rcases hm with hm | hm | hm | hm | hm <;> exists hm
 ·exact(ok.fn (68,6,["text"]) ∅).at.2
 ·exact(ok.fn (75,7,["text"]) ∅).at.2
 ·exact(ok.fn (82,8,["text"]) ∅).at.2
 ·exact(ok.fn (89,9,["text"]) ∅).at.2
 ·exact(ok.fn (96,10,["text"]) ∅).at.2
theorem wO(h:Pr prog w K d hd xs (fun vs=>call (.ref a) vs) H k kx):Pr prog w K d hd (.gl a::xs) cV H k kx:=by
 intro A σ Z s vs Q E hA S hv hQ hE
 revert hv;refine aV fun v r q t=>?_;obtain rfl:=q;revert t;refine am fun hx hr=>?_
 subst hx;exact h A σ Z s r Q E hA S hr hQ hE
structure cE(H:Hp)(rh qh rg qg rr:Nat)(hps gps:List (Str × Str))(rf:List V):Prop where
 h1:H[rh]? =some (.n gq [.ob qh])
 h2:H[qh]? =some (.l (hps.map gu))
 g1:H[rg]? =some (.n gq [.ob qg])
 g2:H[qg]? =some (.l (gps.map gu))
 r1:H[rr]? =some (.l rf)
 d1:qh≠rh∧qh≠rg∧qh≠qg∧qh≠rr
 d2:qg≠rh∧qg≠rg∧qg≠rr
 d3:rr≠rh∧rr≠rg
variable{rh qh rg qg rr:Nat}{hps gps:List (Str × Str)}{rf:List V}
theorem b0{l:List α}{x:α}(h:l[i]? =some x):i < l.length:=(List.getElem?_eq_some_iff.mp h).1
theorem cE.app(L:cE H rh qh rg qg rr hps gps rf)(τ:Hp):cE (H++τ) rh qh rg qg rr hps gps rf:=by
 refine⟨?_,?_,?_,?_,?_,L.d1,L.d2,L.d3⟩
 ·rw[List.getElem?_append_left (b0 L.h1)];exact L.h1
 ·rw[List.getElem?_append_left (b0 L.h2)];exact L.h2
 ·rw[List.getElem?_append_left (b0 L.g1)];exact L.g1
 ·rw[List.getElem?_append_left (b0 L.g2)];exact L.g2
 ·rw[List.getElem?_append_left (b0 L.r1)];exact L.r1
theorem cE.setH(L:cE H rh qh rg qg rr hps gps rf)(hps':List (Str × Str)):cE (H.set qh (.l (hps'.map gu))) rh qh rg qg rr hps' gps rf:=by
 refine⟨?_,?_,?_,?_,?_,L.d1,L.d2,L.d3⟩
 ·rw[List.getElem?_set_ne L.d1.1];exact L.h1
 ·exact List.getElem?_set_self (b0 L.h2)
 ·rw[List.getElem?_set_ne L.d1.2.1];exact L.g1
 ·rw[List.getElem?_set_ne L.d1.2.2.1];exact L.g2
 ·rw[List.getElem?_set_ne L.d1.2.2.2];exact L.r1
theorem cE.setG(L:cE H rh qh rg qg rr hps gps rf)(gps':List (Str × Str)):cE (H.set qg (.l (gps'.map gu))) rh qh rg qg rr hps gps' rf:=by
 refine⟨?_,?_,?_,?_,?_,L.d1,L.d2,L.d3⟩
 ·rw[List.getElem?_set_ne L.d2.1];exact L.h1
 ·rw[List.getElem?_set_ne (Ne.symm L.d1.2.2.1)];exact L.h2
 ·rw[List.getElem?_set_ne L.d2.2.1];exact L.g1
 ·exact List.getElem?_set_self (b0 L.g2)
 ·rw[List.getElem?_set_ne L.d2.2.2];exact L.r1
theorem cE.setR(L:cE H rh qh rg qg rr hps gps rf)(rf':List V):cE (H.set rr (.l rf')) rh qh rg qg rr hps gps rf':=by
 refine⟨?_,?_,?_,?_,?_,L.d1,L.d2,L.d3⟩
 ·rw[List.getElem?_set_ne L.d3.1];exact L.h1
 ·rw[List.getElem?_set_ne (Ne.symm L.d1.2.2.2)];exact L.h2
 ·rw[List.getElem?_set_ne L.d3.2];exact L.g1
 ·rw[List.getElem?_set_ne (Ne.symm L.d2.2.2)];exact L.g2
 ·exact List.getElem?_set_self (b0 L.r1)
noncomputable def uK(p:Nat)(o:String × Str):V:=.tup [ah p,.str (Str.ofString o.1),.str o.2]
noncomputable def bC(bc:List (Str × Str))(out:List (Option (String × Str)))(due:List Str):Nat→List (Str × Str)
 | 0=>bc
 | n+1=>bC bc out due n++(match out.getD (n+1) none with | none=>[(bH (n+1),due.getD (n+1) bX),(jD (n+1),bX)] | some _=>[])
noncomputable def cR(ups ends:List Nat):Nat→List (Str × Str)
 | 0=>[]
 | n+1=>cR ups ends n++[(if ends.getD (n+1) 0 > 4 then jD (ups.getD (n+1) 0) else bH (ups.getD (n+1) 0),bH (n+1))]
noncomputable def bW(out:List (Option (String × Str))):Nat→List V
 | 0=>[]
 | n+1=>bW out n++(match out.getD (n+1) none with | none=>[] | some o=>[uK (n+1) o])
variable{ups ends:List Nat}
theorem kU:cR ups ends (n+1)=cR ups ends n++[(if ends.getD (n+1) 0 > 4 then jD (ups.getD (n+1) 0) else bH (ups.getD (n+1) 0),bH (n+1))]:=rfl
variable{out:List (Option (String × Str))}{due:List Str}
theorem kW{bc:List (Str × Str)}:bC bc out due (n+1)=bC bc out due n++(match out.getD (n+1) none with | none=>[(bH (n+1),due.getD (n+1) bX),(jD (n+1),bX)] | some _=>[]):=rfl
theorem oZ:bW out (n+1)=bW out n++(match out.getD (n+1) none with | none=>[] | some o=>[uK (n+1) o]):=rfl
theorem jQ(bc:List (Str × Str))(out:List (Option (String × Str)))(due:List Str):∀ n,(bC bc out due n).length≤bc.length+2 * n
 | 0=>Nat.le_refl _
 | n+1=>by
  have:=jQ bc out due n;rw[kW];rw[List.length_append];split <;> simp <;> omega
theorem nx(ups ends:List Nat):∀ n,(cR ups ends n).length=n
 | 0=>rfl
 | n+1=>by rw[kU];simp[nx ups ends n]
theorem nM(out:List (Option (String × Str))):∀ n,(bW out n).length≤n
 | 0=>Nat.le_refl _
 | n+1=>by
  have:=nM out n;rw[oZ];rw[List.length_append];split <;> simp <;> omega
theorem rM:isSubtype (.type "ValueError") (.type "BaseException")=pure true:=by rw[isSubtype_type];kernel_rfl
theorem Bm:isSubtype (.type "AssertionError") (.type "BaseException")=pure true:=by rw[isSubtype_type];kernel_rfl
theorem Br:isSubtype (.type "ValueError") (.type "ValueError")=pure true:=by rw[isSubtype_type];kernel_rfl
theorem Bq:isSubtype (.type "TypeError") (.type "ValueError")=pure false:=by rw[isSubtype_type];kernel_rfl
theorem Bp:isSubtype (.type "AssertionError") (.type "ValueError")=pure false:=by rw[isSubtype_type];kernel_rfl
theorem Bo:isSubtype (.type "AssertionError") (.type "TypeError")=pure false:=by rw[isSubtype_type];kernel_rfl
theorem Bn:isSubtype (.type "AssertionError") (.type "AssertionError")=pure true:=by rw[isSubtype_type];kernel_rfl
theorem AY:isSubtype (.type ((Manifest.find? "ValueError").elim "type" fun x=>x.metatype)) (.type "tuple")=pure false:=by rw[find?_eq_fast,isSubtype_type];kernel_rfl
theorem EG:isSubtype (.type ((Manifest.find? "AssertionError").elim "type" fun x=>x.metatype)) (.type "tuple")=pure false:=by rw[find?_eq_fast,isSubtype_type];kernel_rfl
noncomputable abbrev em(rh rg rr a:Nat)(ups ends:List Nat)(bare:List V):ai:=[("head",.ins 306 rh),("hang",.ins 306 rg),("ups",al ups),("write",.gl a),("bare",.lst bare),("ends",al ends),("refused",.ob rr)]
theorem vo:(Str.ofString "-").cps.any aF=false:=xw
theorem vK{k:Fl→ai→Hp→Prop}{kx:X→ai→Hp→Prop}(ht:hd.top=some env)(C:X→Hp→Prop)(h:Ex prog w K d hd env ρ (execs body env) H k (fun x ρ' H'=>ρ'=ρ0∧C x H'))(hH:∀ x H',C x H'→Hn prog w K d hd env x ρ0 (h₀::hs) H' k kx):
  Ex prog w K d hd env ρ (exec (.Try body (h₀::hs) [] [] pos) env) H k kx:=by
 refine cz ht ?_;intro A σ Z s Q E hA S F hQ hE;refine h A σ Z s Q E hA S F hQ fun e s' σ' x ρ' H' g S' F' hx hk=>?_
 revert hk;refine am fun q hp=>?_;obtain rfl:=q
 exact hE e s' σ' x ρ' H' g S' F' hx (hH x H' hp)
variable{bare:List V}
theorem oF:∀ p∈em rh rg rr a ups ends bare,p.1≠Str.ofString "error":=by
 intro p hp;simp only[List.mem_cons,List.not_mem_nil,or_false] at hp;rcases hp with rfl | rfl | rfl | rfl | rfl | rfl | rfl <;> (dsimp only;walk_at "k")
set_option tactic.hygienic true in
theorem yd(ok:bI K)(ht:top=some env)(hsc:Sc env (aj 25) (own env)){T:List (Str × Str)}(hm:(a,T)∈dl){bc:List (Str × Str)}(h0:bc.length≤10)(L:cE (H++[Ob.l []]) rh qh rg qg H.length bc [] [])(hu:ups.length=6∧∀ i,i < 6→ups.getD i 0 < 6)(he:ends.length=6)(hb:bare.length=6)(hw:∀ i,1≤i→i≤5→Wr T (bare.getD i .none) (out.getD i none) (due.getD i bX))(ks:Fl→ai→Hp→Prop)(h:∀ ρ H',cE H' rh qh rg qg H.length (bC bc out due 5) (cR ups ends 5) (bW out 5)→ks (.ret (.ob H.length)) ρ H'):
  Ex prog w K (d+4) ⟨true,top⟩ env [("head",.ins 306 rh),("hang",.ins 306 rg),("ups",al ups),("write",.gl a),("bare",.lst bare),("ends",al ends)] (execs (av 25) env) H ks (fun J J J=>False):=by
 walk_at "f";obtain⟨haf,hak⟩:=ok.hsAdd.at
 walk_at "mv";walk_at "asg";refine aZ ?_
 repeat walk_at "mv"
 apply ad hsc ⋯
 ·walk_at "d"
 walk_at "mv";refine dk (fun J=>rfl) ?_;refine cp ok hsc ⋯ aJ rfl rfl ?_
 repeat walk_at "mv"
 refine⟨_,ez rfl ⟨by decide,by decide,by decide,by decide⟩,?_⟩;refine bG (fun i ρ H'=>i≤5∧cE H' rh qh rg qg H.length (bC bc out due i) (cR ups ends i) (bW out i)∧ρ=em rh rg H.length a ups ends bare) ?_ ⟨by decide,L,rfl⟩ ?_
 ·rintro i u ρ H' hu' ⟨hi5,L,rfl⟩;rw[List.getElem?_map] at hu'
  have hi:i < 5:=by
   rcases Nat.lt_or_ge i 5 with q | q
   ·exact q
   ·rw[List.getElem?_eq_none (by simpa using q)] at hu';exists hu'
  obtain rfl:ah (i+1)=u:=by
   rw[List.getElem?_range (by exact hi)] at hu';rw[←Option.some.inj hu'];show V.int ((i+1:Nat):Int)=V.int (1+(i:Int));congr 1;omega
  have hup:=hu.2 (i+1) (by omega);apply ad hsc ⋯
  ·walk_at "d"
  walk_at "mv";walk_at "asg";walk_at "ix";walk_at "mv";walk_at "ixn";walk_at "2";refine⟨_,i+1,ah (ups.getD (i+1) 0),.l,rfl,?_,by simp[hu.1],?_⟩
  ·rw[List.getElem?_map,gd 0 (by rw[hu.1];omega)];rfl
  refine⟨rfl,cX (by omega) (by omega) (pZ _ hup) ?_⟩;apply ad hsc ⋯
  ·walk_at "d"
  walk_at "mv";refine aR rfl ?_;refine bZ rfl rfl rfl hak ?_;walk_at "mv";refine⟨eu ok L.g1 ∅ haf fm ∅,?_⟩;walk_at "mv";have hgd:(cR ups ends i).length=i:=nx ups ends i;refine Ev.mono (k:=fun u H2=>H'=H2∧u=.str (if ends.getD (i+1) 0 > 4 then jD (ups.getD (i+1) 0) else bH (ups.getD (i+1) 0))) (kx:=fun J J=>False) ?_ ?_ (fun J J q=>q.elim)
  ·walk_at "mv";walk_at "mv";walk_at "ixn";walk_at "2";refine⟨_,i+1,ah (ends.getD (i+1) 0),.l,rfl,?_,by simp[he],?_⟩
   ·rw[List.getElem?_map,gd 0 (by rw[he];omega)];rfl
   walk_at "3"
   by_cases hz:ends.getD (i+1) 0 > 4
   ·rw[decide_eq_true hz,if_pos hz];refine fy (id:="str.upper") rfl ?_;walk_at "mv";refine⟨pD,qi (by show(1:Nat)≤_;decide) ?_⟩;exact⟨rfl,by rw[show(⟨#[yF.getD (ups.getD (i+1) 0) 0]⟩:Str)=bH (ups.getD (i+1) 0) from rfl,w4 _ hup]⟩
   ·rw[decide_eq_false hz,if_neg hz];walk_at "mv";exact⟨rfl,rfl⟩
  rintro u2 H2 ⟨rfl,rfl⟩;generalize hnm:(if ends.getD (i+1) 0 > 4 then jD (ups.getD (i+1) 0) else bH (ups.getD (i+1) 0))=nm
  have hnm1:nm.cps.size≤1000∧nm.cps.any aW=false:=by
   rw[←hnm];split
   ·exact⟨by show(1:Nat)≤_;decide,(ma _ hup).2.1⟩
   ·exact⟨by show(1:Nat)≤_;decide,(ma _ hup).1⟩
  walk_at "mv";walk_at "ix";walk_at "2";refine⟨rfl,cX (by omega) (by omega) (pZ (i+1) (by omega)) ?_⟩;walk_at "mv";have hl1:(bH (i+1)).cps.any aF=false:=(ma (i+1) (by omega)).2.2.1;refine je ok rfl L.g1 L.g2 (by omega) hnm1.1 hnm1.2 (by show(1:Nat)≤1000;decide) (fun J=>?_) (fun q=>by rw[show(⟨#[yF.getD (i+1) 0]⟩:Str)=bH (i+1) from rfl,hl1] at q;exists q);have L2':=(L.app [.l [.str (bH (i+1))]]).setG (cR ups ends i++[(nm,bH (i+1))]);have eg:cR ups ends i++[(nm,bH (i+1))]=cR ups ends (i+1):=by rw[←hnm];rfl
  obtain⟨H3,hH3⟩:∃ H3,H3=(H'++[Ob.l [V.str ⟨#[yF.getD (i+1) 0]⟩]]).set qg (Ob.l ((cR ups ends i++[(nm,(⟨#[yF.getD (i+1) 0]⟩:Str))]).map gu)):=⟨_,rfl⟩;rw[←hH3];have L2:cE H3 rh qh rg qg H.length (bC bc out due i) (cR ups ends (i+1)) (bW out i):=by rw[hH3,←eg];exact L2'
  clear hH3 L2' L;have hhl:=jQ bc out due i;have hrl:=nM out i;have hWr:=hw (i+1) (by omega) (by omega);walk_at "mv"
  refine vK ht (ρ0:=[("head",.ins 306 rh),("hang",.ins 306 rg),("ups",al ups),("write",.gl a),("bare",.lst bare),("ends",al ends),("refused",.ob H.length),("place",ah (i+1)),("up",.str ⟨#[yF.getD (ups.getD (i+1) 0) 0]⟩)])
   (fun x H4=>∃ cls msg,x=⟨cls,[.str msg]⟩∧out.getD (i+1) none=some (cls,msg)∧(cls="ValueError"∨cls="TypeError"∨cls="AssertionError")∧cE H4 rh qh rg qg H.length (bC bc out due i) (cR ups ends (i+1)) (bW out i)) ?_ ?_
  rotate_left
  ·rintro x H4 ⟨cls,msg,rfl,hO,hc,L4⟩
   have L5:cE (H4.set H.length (.l (bW out i++[.tup [ah (i+1),.str (Str.ofString cls),.str msg]]))) rh qh rg qg H.length (bC bc out due (i+1)) (cR ups ends (i+1)) (bW out (i+1)):=by
    have f1:bC bc out due (i+1)=bC bc out due i:=by show bC bc out due i++_=_;rw[hO];exact List.append_nil _
    have f2:bW out (i+1)=bW out i++[uK (i+1) (cls,msg)]:=by show bW out i++_=_;rw[hO]
    rw[f1,f2];exact L4.setR _
   rcases hc with rfl | rfl | rfl
   ·with_reducible apply qX ht hsc (T:="ValueError") rM AY Br (d7 hsc ⋯) (ok.blt "ValueError" ∅) cG ∅ ⋯ ⋯ (hsc.loc _ ⋯)
    ·walk_at "d"
    walk_at "mv";refine aR rfl ?_;refine bl (id:="list.append") rfl rfl rfl ?_;walk_at "mv";refine⟨bM L4.r1,?_⟩;walk_at "7";refine iq ok hsc ⋯ ly rfl rfl ?_;walk_at "3";refine iJ F.excStr_ValueError ?_
    repeat walk_at "mv"
    refine bF L4.r1 (by omega) ?_;refine an ?_;refine⟨em rh rg H.length a ups ends bare,fun p hp=>⟨List.mem_append_left [_,_,_] hp,oF p hp⟩,?_⟩;refine an ?_;exact⟨em rh rg H.length a ups ends bare,fun p hp=>hp,by omega,L5,rfl⟩
   ·refine oz rM AY Bq (d7 hsc ⋯) (ok.blt "ValueError" ∅) cG ∅ ⋯ ?_
    with_reducible apply qX ht hsc (T:="TypeError") rL AX eO (d7 hsc ⋯) (ok.blt "TypeError" ∅) eh ∅ ⋯ ⋯ (hsc.loc _ ⋯)
    ·walk_at "d"
    walk_at "mv";refine aR rfl ?_;refine bl (id:="list.append") rfl rfl rfl ?_;walk_at "mv";refine⟨bM L4.r1,?_⟩;walk_at "7";refine iq ok hsc ⋯ ly rfl rfl ?_;walk_at "3";refine iJ F.excStr_TypeError ?_
    repeat walk_at "mv"
    refine bF L4.r1 (by omega) ?_;refine an ?_;refine⟨em rh rg H.length a ups ends bare,fun p hp=>⟨List.mem_append_left [_,_,_] hp,oF p hp⟩,?_⟩;refine an ?_;exact⟨em rh rg H.length a ups ends bare,fun p hp=>hp,by omega,L5,rfl⟩
   ·refine oz rM AY Bp (d7 hsc ⋯) (ok.blt "ValueError" ∅) cG ∅ ⋯ ?_;refine oz rL AX Bo (d7 hsc ⋯) (ok.blt "TypeError" ∅) eh ∅ ⋯ ?_
    with_reducible apply qX ht hsc (T:="AssertionError") Bm EG Bn (d7 hsc ⋯) (ok.blt "AssertionError" ∅) eT ∅ ⋯ ⋯ (hsc.loc _ ⋯)
    ·walk_at "d"
    walk_at "mv";refine aR rfl ?_;refine bl (id:="list.append") rfl rfl rfl ?_;walk_at "mv";refine⟨bM L4.r1,?_⟩;walk_at "7";refine iq ok hsc ⋯ ly rfl rfl ?_;walk_at "3";refine iJ F.excStr_AssertionError ?_
    repeat walk_at "mv"
    refine bF L4.r1 (by omega) ?_;refine an ?_;refine⟨em rh rg H.length a ups ends bare,fun p hp=>⟨List.mem_append_left [_,_,_] hp,oF p hp⟩,?_⟩;refine an ?_;exact⟨em rh rg H.length a ups ends bare,fun p hp=>hp,by omega,L5,rfl⟩
  walk_at "mv";refine aR rfl ?_;refine bZ rfl rfl rfl hak ?_;walk_at "mv";refine⟨eu ok L2.h1 ∅ haf fm ∅,?_⟩;walk_at "mv";walk_at "ix";walk_at "2";refine⟨rfl,cX (by omega) (by omega) (pZ (i+1) (by omega)) ?_⟩;walk_at "mv";refine lF rfl rfl ?_;walk_at "mv";refine⟨yX ok hm,?_⟩;walk_at "mv";walk_at "ixn";walk_at "2";refine⟨_,i+1,bare.getD (i+1) .none,.l,rfl,gd V.none (by rw[hb];omega),by omega,?_⟩;walk_at "mv";refine wO ?_;generalize bare.getD (i+1) .none=bv at hWr ⊢;have hl2:(bH (i+1)).cps.any aW=false:=(ma (i+1) (by omega)).1;have e1:bC bc out due (i+1)=bC bc out due i++(match out.getD (i+1) none with | none=>[(bH (i+1),due.getD (i+1) bX),(jD (i+1),bX)] | some _=>[]):=rfl;have e2:bW out (i+1)=bW out i++(match out.getD (i+1) none with | none=>[] | some o=>[uK (i+1) o]):=rfl;generalize hO:out.getD (i+1) none=o1 at hWr e1 e2;generalize hD:due.getD (i+1) bX=d1 at hWr e1;cases hWr with
  | ok q1 q2 q3=>
   rename_i xs;refine w6 ok rfl hm q1 ?_;walk_at "mv";refine je ok rfl L2.h1 L2.h2 (by omega) (by show(1:Nat)≤1000;decide) hl2 q2 (fun J=>?_) (fun q=>by rw[q3] at q;exists q);have L3':=(L2.app [.l [.str (bw T xs)]]).setH (bC bc out due i++[(bH (i+1),bw T xs)]);obtain⟨H5,hH5⟩:∃ H5,H5=(H3++[Ob.l [V.str (bw T xs)]]).set qh (Ob.l ((bC bc out due i++[((⟨#[yF.getD (i+1) 0]⟩:Str),bw T xs)]).map gu)):=⟨_,rfl⟩;rw[←hH5];have L3:cE H5 rh qh rg qg H.length (bC bc out due i++[(bH (i+1),bw T xs)]) (cR ups ends (i+1)) (bW out i):=by rw[hH5];exact L3'
   clear hH5 L3' L2;walk_at "mv";refine aR rfl ?_;refine bZ rfl rfl rfl hak ?_;walk_at "mv";refine⟨eu ok L3.h1 ∅ haf fm ∅,?_⟩;walk_at "mv";walk_at "ix";walk_at "2";refine⟨rfl,cX (by omega) (by omega) (y6 (i+1) (by omega)) ?_⟩;walk_at "3";refine je ok rfl L3.h1 L3.h2 (by walk_at "s";omega) (by show(1:Nat)≤1000;decide) (ma (i+1) (by omega)).2.1 (by show(1:Nat)≤1000;decide) (fun J=>?_) (fun q=>by rw[vo] at q;exists q);refine an ?_;refine an ?_;refine⟨em rh rg H.length a ups ends bare,fun p hp=>List.mem_append_left [_,_] hp,by omega,?_,rfl⟩;have L6:=(L3.app [.l [.str bX]]).setH (bC bc out due i++[(bH (i+1),bw T xs)]++[(jD (i+1),bX)]);have f1:bC bc out due (i+1)=bC bc out due i++[(bH (i+1),bw T xs)]++[(jD (i+1),bX)]:=by rw[e1,List.append_assoc];rfl
   rw[f1,e2];rw[List.append_nil (bW out i)];exact L6
  | ctrl q1 q2 q3=>
   refine w6 ok rfl hm q1 ?_;walk_at "mv";refine je ok rfl L2.h1 L2.h2 (by omega) (by show(1:Nat)≤1000;decide) hl2 q2 (fun q=>by rw[q3] at q;exists q) (fun J=>?_);exact⟨rfl,_,_,rfl,rfl,.inl rfl,L2.app _⟩
  | unw q1=>
   refine By ok rfl hm q1 ?_;exact⟨rfl,_,_,rfl,rfl,.inr (.inl rfl),L2⟩
  | x=>
   refine EX ok rfl hm ?_;walk_at "mv";refine t9 ok rfl L2.h1 ?_;exact⟨rfl,_,_,rfl,rfl,.inr (.inr rfl),L2.app _⟩
 ·rintro ρ' H' ⟨_,L,rfl⟩
  repeat walk_at "mv"
  exact h _ _ L
variable{kx:X→Hp→Prop}
noncomputable abbrev bE:List Nat:=[1,2,3,4,5]
noncomputable def cJ(ups:List Nat)(kept tails:List Str):Nat→Nat→List Str
 | 0,_=>[]
 | f+1,p=>kept.getD p ⟨#[]⟩::bE.flatMap fun kid=>if ups.getD kid 0=p then cJ ups kept tails f kid++[tails.getD kid ⟨#[]⟩] else []
variable{kept:List Str}{f p:Nat}
theorem oP{tails:List Str}:cJ ups kept tails (f+1) p=kept.getD p ⟨#[]⟩::bE.flatMap fun kid=>if ups.getD kid 0=p then cJ ups kept tails f kid++[tails.getD kid ⟨#[]⟩] else []:=rfl
theorem lZ:∀ k∈bE,1≤k∧k≤5:=by decide
theorem yH:∀ p,p < 6→(bE.map fun k=>if p < k then 2 ^ (6 - k) else 0).sum+2≤2 ^ (6 - p):=by decide
theorem vM{F:Nat→List Str}{g:Nat→Nat}(l:List Nat)(h:∀ k∈l,(F k).length≤g k):(l.flatMap F).length≤(l.map g).sum:=by
 induction l with
 | nil=>exact Nat.le_refl _
 | cons a r ih=>
  rw[List.flatMap_cons,List.length_append,List.map_cons,List.sum_cons];exact Nat.add_le_add (h a List.mem_cons_self) (ih fun k hk=>h k (List.mem_cons_of_mem _ hk))
theorem dW{ups:List Nat}{kept tails:List Str}(hup:∀ k,1≤k→k≤5→ups.getD k 0 < k):∀ f p,p≤5→(cJ ups kept tails f p).length+1≤2 ^ (6 - p)
 | 0=>fun p h=>by
  show 1≤2 ^ (6 - p);exact Nat.one_le_two_pow
 | f+1=>fun p h=>by
  have t:=vM (F:=fun kid=>if ups.getD kid 0=p then cJ ups kept tails f kid++[tails.getD kid ⟨#[]⟩] else []) (g:=fun k=>if p < k then 2 ^ (6 - k) else 0) bE fun k hk=>by
   have hk':1≤k∧k≤5:=lZ k hk;show(if ups.getD k 0=p then cJ ups kept tails f k++[tails.getD k ⟨#[]⟩] else []).length≤if p < k then 2 ^ (6 - k) else 0
   by_cases e:ups.getD k 0=p
   ·have:=hup k hk'.1 hk'.2;rw[if_pos e,if_pos (by omega),List.length_append];exact dW hup f k hk'.2
   ·rw[if_neg e];exact Nat.zero_le _
  have d:=yH p (by omega);exact Nat.le_trans (Nat.succ_le_succ (Nat.succ_le_succ t)) d
theorem sX(ok:bI K){ups:List Nat}{kept tails:List Str}(hu:ups.length=6)(hk:kept.length=6)(ht:tails.length=6)(hup:∀ i,1≤i→i≤5→ups.getD i 0 < i):∀ (f p:Nat) {hd:Hd} {k:V→Hp→Prop} {kx:X→Hp→Prop},hd.h=true→6≤p+f→p≤5→k (.lst ((cJ ups kept tails f p).map V.str)) H→
  Pr prog w K (d+f) hd [ah p,al ups,.lst (kept.map V.str),.lst (tails.map V.str)] (fun vs=>call (.ref 372) vs) H k kx
 | 0,p,hd,k,kx,hh,h1,h2,h=>by omega
 | f+1,p,hd,k,kx,hh,h1,h2,h=>by
  obtain⟨hb,top⟩:=hd;exists hh;refine bp (ρ0:=[("place",ah p),("ups",al ups),("kept",.lst (kept.map V.str)),("tails",.lst (tails.map V.str))]) (ok.fn (372,29,["place","ups","kept","tails"]) ∅) rfl rfl fun env hsc=>?_;walk_at "f";walk_at "5";walk_at "ixn";walk_at "2";refine⟨_,p,.str (kept.getD p ⟨#[]⟩),.l,rfl,?_,by simp[hk],?_⟩
  ·rw[List.getElem?_map,gd (⟨#[]⟩:Str) (by rw[hk];omega)];rfl
  walk_at "2";refine au hsc ?hg ⋯ (ag.take ⋯ (ag.take ⋯ (ag.take ⋯ (ag.take ⋯ ag.nil)))) ?_
  case hg=>
   intro g' hg';rcases List.mem_cons.mp hg' with rfl | hg'
   ·exact⟨rfl,fun J J=>rfl⟩
   ·rw[List.mem_singleton.mp hg'];exact⟨rfl,fun J J=>rfl⟩
  refine cp ok hsc ⋯ aJ rfl rfl ?_
  repeat walk_at "mv"
  refine⟨_,ez rfl ⟨by decide,by decide,by decide,by decide⟩,fun cenv Xw hc=>?_⟩;have el:((List.range ((6:Int) - 1).toNat).map fun i:Nat=>V.int (1+(i:Int)))=bE.map ah:=rfl;rw[el]
  let G:Nat→List Str:=fun kid=>cJ ups kept tails f kid++[tails.getD kid ⟨#[]⟩]
  have hfl:((bE.map ah).flatMap fun u=>if (match u with | .int i=>decide (ups.getD i.toNat 0=p) | _=>false) then (match u with | .int i=>(G i.toNat).map V.str | _=>[]) else [])=(bE.flatMap fun kid=>if ups.getD kid 0=p then G kid else []).map V.str:=by
   simp only[List.flatMap_map,List.map_flatMap];congr 1
   funext kid
   simp only[Int.toNat_natCast]
   by_cases q:ups.getD kid 0=p
   ·rw[if_pos (by simpa using q),if_pos q]
   ·rw[if_neg (by simpa using q),if_neg q];rfl
  have hlen:=dW (kept:=kept) (tails:=tails) hup (f+1) p h2
  have hlen2:(bE.flatMap fun kid=>if ups.getD kid 0=p then G kid else []).length≤64:=by
   have e:(cJ ups kept tails (f+1) p).length=(bE.flatMap fun kid=>if ups.getD kid 0=p then G kid else []).length+1:=rfl;exact Nat.le_trans (Nat.le_add_right _ 2) (Nat.le_trans hlen (Nat.pow_le_pow_right (by decide) (Nat.sub_le 6 p)))
  refine jV hc ⋯ ⋯ ⋯ ⋯ ⋯ (fun u=>match u with | .int i=>decide (ups.getD i.toNat 0=p) | _=>false) (fun u=>match u with | .int i=>(G i.toNat).map V.str | _=>[]) _ [] _ (fun J q=>q) ?_ ?_ ?_ ?_
  ·rw[hfl,List.length_map];exact Nat.le_trans (Nat.le_of_eq (Nat.zero_add _)) (Nat.le_trans hlen2 (by decide))
  ·intro u hu';refine ab (fun kid hkid t=>?_) (List.mem_map.mp hu');obtain rfl:=t;have hk6:=lZ kid hkid;refine cY ?_;walk_at "mv";walk_at "ixn";walk_at "2";refine⟨_,kid,ah (ups.getD kid 0),.l,rfl,?_,by simp[hu],?_⟩
   ·rw[List.getElem?_map,gd 0 (by rw[hu];omega)];rfl
   walk_at "mv";refine wJ (c:=p) rfl ?_;walk_at "mv";exact⟨rfl,rfl⟩
  ·intro u hu' hpu;refine ab (fun kid hkid t=>?_) (List.mem_map.mp hu');obtain rfl:=t;have hk6:=lZ kid hkid;have hkp:ups.getD kid 0=p:=by simpa using hpu
   have hlt:=hup kid hk6.1 hk6.2;refine aX ?_;walk_at "mv";refine eV ok hc (x:="_law_page") (a:=372) ∅ (ok.fn (372,29,["place","ups","kept","tails"]) ∅).obj ⋯ ⋯ rfl rfl ?_
   repeat walk_at "mv"
   have hlk:=dW (kept:=kept) (tails:=tails) hup f kid hk6.2;have h2k:2 ^ (6 - kid)≤2 ^ 6:=Nat.pow_le_pow_right (by decide) (Nat.sub_le 6 kid);refine sX ok hu hk ht hup f kid rfl (Nat.le_trans h1 (Nat.le_trans (Nat.le_of_eq (Nat.add_right_comm p f 1)) (Nat.add_le_add_right (hkp▸hlt) f))) hk6.2 ?_;walk_at "2";walk_at "ixn";walk_at "2";refine⟨_,kid,.str (tails.getD kid ⟨#[]⟩),.l,rfl,?_,by simp[ht],?_⟩
   ·rw[List.getElem?_map,gd (⟨#[]⟩:Str) (by rw[ht];omega)];rfl
   walk_at "2";refine bx (by walk_at "s";omega) ?_;refine⟨_,aS rfl,?_,rfl⟩;show(cJ ups kept tails f kid).map V.str++[V.str (tails.getD kid ⟨#[]⟩)]=(G kid).map V.str;rw[List.map_append];rfl
  ·intro ρ';rw[hfl,List.nil_append];refine bx (by rw[List.length_map];exact Nat.le_trans (Nat.add_le_add_left hlen2 1) (by decide)) ?_;exact h
variable{kx:X→Hp→Prop}
variable{tg tl:V}
theorem sO(ok2:dz K pm)(hh:hd.h=true){aks:List Str}{avs:List V}(ha:(aks.zip avs).lookup (Str.ofString "tail")=some tl)(h:k (.ob H.length) (H++[.f (some (H.length+2)),.l [],.n eI [lA pm (.ob (H.length+1)) (.dct aks avs),.gl 353,.bm "list.append" (.ob (H.length+1)),tl,tg]])):
  Pr prog w K (d+1) hd [tg,.dct aks avs] (fun vs=>call (.ref 353) vs) H k kx:=by
 obtain⟨hb,top⟩:=hd;exists hh;have ok:=ok2.ok;refine Ch (ar:=fun vs=>⟨vs,[]⟩) (ρ0:=[("tag",tg),("attrib",.dct aks avs)]) (ys:=[tg,.dct aks avs]) ok2.mkr rfl rfl (fun fd hb=>pe rfl fun vs hv=>hb.1 vs hv) fun env fd hfd hsc hcd hql=>?_;have hC:zH K env.code:=by rw[hcd];exact hfd.2.1
 have hq:env.qual++"<lambda>"=aO:=by rw[hql,hfd.2.2];kernel_rfl
 walk_at "f";refine fC ?_;walk_at "asg";refine tW hq hC ok2.mb rfl ?_;apply ad hsc ⋯
 ·walk_at "d"
 refine⟨rfl,fC ?_⟩;walk_at "asg";refine aZ ?_
 repeat walk_at "mv"
 apply ad hsc ⋯
 ·walk_at "d"
 have e0:(H++[Ob.f none]).length=H.length+1:=by walk_at "s"
 rw[e0,List.append_assoc];refine⟨rfl,fC ?_⟩;walk_at "asg";walk_at "mv";refine dc ?_;walk_at "mv";have g1:(H++([Ob.f none]++[Ob.l []]))[H.length]? =some (.f none):=by walk_at "s"
 refine wL g1 sr ?_
 have e1:(H++([Ob.f none]++[Ob.l []])).set H.length (.f (some (H++([Ob.f none]++[Ob.l []])).length))++[.n [Str.ofString "tag"] [tg]]=H++[.f (some (H.length+2)),.l [],.n [Str.ofString "tag"] [tg]]:=by
  rw[List.set_append_right _ _ (Nat.le_refl _),Nat.sub_self];walk_at "s"
 rw[e1];have lk:∀ (ks:List Str) (l:List V),(H++[Ob.f (some (H.length+2)),.l [],.n ks l])[H.length]? =some (.f (some (H.length+2))):=fun ks l=>FS;have ln:∀ (ks:List Str) (l:List V),(H++[Ob.f (some (H.length+2)),.l [],.n ks l])[H.length+2]? =some (.n ks l):=fun ks l=>DX;have ll:∀ (ks:List Str) (l:List V),(H++[Ob.f (some (H.length+2)),.l [],.n ks l])[H.length+1]? =some (.l []):=fun ks l=>FB
 have ls:∀ (ks ks':List Str) (l l':List V),(H++[Ob.f (some (H.length+2)),.l [],.n ks l]).set (H.length+2) (.n ks' l')=H++[Ob.f (some (H.length+2)),.l [],.n ks' l']:=fun ks ks' l l'=>by
  rw[List.set_append_right _ _ (by omega),show H.length+2 - H.length=2 from by omega];rfl
 refine⟨rfl,fC ?_⟩;walk_at "asg";walk_at "ix";walk_at "2";refine⟨rfl,ie ha ?_⟩;refine dc ?_;walk_at "mv";refine jq (lk _ _) (ln _ _) jb (by decide) ?_;rw[ls];refine⟨rfl,fC ?_⟩;walk_at "asg";refine aI rfl ?_;walk_at "mv";refine gU (ll _ _) ?_;refine dc ?_;walk_at "mv";refine jq (lk _ _) (ln _ _) lI (by decide) ?_;rw[ls];refine⟨rfl,fC ?_⟩;walk_at "asg";refine eE ok hsc (x:="_law_make") (a:=353) ∅ ⋯ ⋯ ?_;refine dc ?_;walk_at "mv";refine jq (lk _ _) (ln _ _) pC (by decide) ?_;rw[ls];refine⟨rfl,?_⟩;refine xM (n1:=Str.ofString "attrib") (n2:=Str.ofString "kids") (pm:=pm) rfl rfl rfl hq hC ok2.mb ?_ (by walk_at "g") (by walk_at "g") (hsc.cel _ ⋯) (hsc.cel _ ⋯) (by walk_at "g") (hsc.loc _ ⋯) (lk _ _) (ln _ _) lJ (by decide) ?_
 ·intro c1 c2 h1 h2;have b1:cellOf env (Str.ofString "attrib")=pure c1:=by unfold cellOf;rw[h1]
  have b2:cellOf env (Str.ofString "kids")=pure c2:=by unfold cellOf;rw[h2]
  unfold closureFor;simp only[List.forIn_cons,List.forIn_nil];rw[if_pos (by decide)];simp only[b1,pure_bind];rw[if_pos (by decide)];simp only[b2,pure_bind]
 ·refine Cu h ?_;rw[ls];kernel_rfl
variable{kx:X→Hp→Prop}
theorem Bt(ok2:dz K pm)(hh:hd.h=true){rp rn rk:Nat}{no tx:V}{pclo ptl ptg:V}(hp:H[rp]? =some (.f (some rn)))(hn:H[rn]? =some (.n eI [pclo,.gl 353,.bm "list.append" (.ob rk),ptl,ptg]))(hk:H[rk]? =some (.l kids))(hkl:kids.length≤100)(h:k (.ob H.length) ((H++[Ob.f (some (H.length+2)),.l [],.n eI [lA pm (.ob (H.length+1)) (.dct (["text","tail"].map Str.ofString) [tx,tl]),.gl 353,.bm "list.append" (.ob (H.length+1)),tl,tg]]).set rk (.l (kids++[.ob H.length])))):
  Pr prog w K (d+2) hd [.ob rp,tg,.dct (["text","tail"].map Str.ofString) [tx,no],tl] (lz (.ref 47) 3 [Str.ofString "tail"]) H k kx:=by
 obtain⟨hb,top⟩:=hd;exists hh;have ok:=ok2.ok;refine kh (ar:=fun vs=>⟨vs.take 3,[Str.ofString "tail"].zip (vs.drop 3)⟩) (ρ0:=[("parent",.ob rp),("tag",tg),("attrib",.dct (["text","tail"].map Str.ofString) [tx,no]),("extra",.dct [Str.ofString "tail"] [tl])]) (ys:=[.ob rp,tg,.dct (["text","tail"].map Str.ofString) [tx,no],.dct [Str.ofString "tail"] [tl]]) ok.sub rfl rfl (fun fd hb=>BR (ys:=[]) (xs:=[.ob rp,tg,.dct (["text","tail"].map Str.ofString) [tx,no]]) hb rfl) fun env hsc=>?_;walk_at "f";walk_at "mv";walk_at "asg";refine vE (by walk_at "g") (by walk_at "g") (by decide) (hsc.loc _ ⋯) (hsc.loc _ ⋯) ?_
 have ep:io (["text","tail"].map Str.ofString) [tx,no] (Str.ofString "tail") tl=(["text","tail"].map Str.ofString,[tx,tl]):=by
  show io (Str.ofString "text"::[Str.ofString "tail"]) (tx::[no]) (Str.ofString "tail") tl=_;rw[mu];rw[if_neg ∅];rw[mu];rw[if_pos rfl];rfl
 rw[ep];dsimp only;apply ad hsc ⋯
 ·walk_at "d"
 walk_at "mv";walk_at "asg";refine pt rfl rfl rfl ?_;walk_at "mv";refine⟨.gl 353,vX hp hn pC ⋯ rfl,ok2.mkr.at.2,?_⟩
 repeat walk_at "mv"
 refine wO (sO ok2 rfl (tl:=tl) ⋯ ?_);apply ad hsc ⋯
 ·walk_at "d"
 have ap:∀ (i:Nat) (o:Ob) (τ:Hp),H[i]? =some o→(H++τ)[i]? =some o:=fun i o τ e=>by rw[List.getElem?_append_left (b0 e)];exact e
 walk_at "mv";refine aR rfl ?_;refine pt rfl rfl rfl ?_;walk_at "mv";refine⟨.bm "list.append" (.ob rk),vX (ap _ _ _ hp) (ap _ _ _ hn) lI ⋯ rfl,trivial,?_⟩
 repeat walk_at "mv"
 refine eM (ap _ _ _ hk) (by omega) ?_
 repeat walk_at "mv"
 exact h
variable{kx:X→Hp→Prop}
noncomputable def aD(ups:List Nat)(p:Nat):List Nat:=bE.filter fun k=>decide (ups.getD k 0=p)
noncomputable def dK(ups:List Nat):Nat→Nat→List Nat
 | 0,_=>[]
 | f+1,p=>(aD ups p).flatMap fun kid=>kid::dK ups f kid
noncomputable abbrev w3:List Str:=["text","tail"].map Str.ofString
noncomputable def m0(kept:List Str)(j:Nat):V:=.dct w3 [.str (kept.getD j ⟨#[]⟩),.str (Str.ofString "no")]
noncomputable def li(e:Nat):V:=[V.none,.str (Str.ofString ""),.str (Str.ofString "z")].getD (e % 3) .none
noncomputable def kq(pm:Value)(kept:List Str)(ends:List Nat)(j rk:Nat):List V:=
 [lA pm (.ob rk) (.dct w3 [.str (kept.getD j ⟨#[]⟩),li (ends.getD j 0)]),.gl 353,.bm "list.append" (.ob rk),li (ends.getD j 0),.str (bH j)]
noncomputable abbrev xc:=Nat × Nat × Nat
noncomputable def bV(ups done:List Nat)(rf:Nat→xc)(j:Nat):List V:=(done.filter fun i=>decide (1≤i)&&decide (ups.getD i 0=j)).map fun i=>.ob (rf i).1
structure eS(pm:Value)(ups:List Nat)(kept:List Str)(ends:List Nat)(H:Hp)(rt:Nat)(done:List Nat)(rf:Nat→xc):Prop where
 dict:H[rt]? =some (.d (done.map bH) (done.map fun j=>.ob (rf j).1))
 nf:∀ j∈done,H[(rf j).1]? =some (.f (some (rf j).2.1))
 nn:∀ j∈done,H[(rf j).2.1]? =some (.n eI (kq pm kept ends j (rf j).2.2))
 nk:∀ j∈done,H[(rf j).2.2]? =some (.l (bV ups done rf j))
 inj:∀ i∈done,∀ j∈done,(rf i).2.2=(rf j).2.2→i=j
 nd:done.Nodup
 le:∀ j∈done,j≤5
 cl:∀ j∈done,1≤j→ups.getD j 0∈done
variable{rt:Nat}{done:List Nat}{rf:Nat→xc}
theorem eS.app(G:eS pm ups kept ends H rt done rf)(τ:Hp):eS pm ups kept ends (H++τ) rt done rf:=by
 have ap:∀ (i:Nat) (o:Ob),H[i]? =some o→(H++τ)[i]? =some o:=fun i o e=>by rw[List.getElem?_append_left (b0 e)];exact e
 exact⟨ap _ _ G.dict,fun j h=>ap _ _ (G.nf j h),fun j h=>ap _ _ (G.nn j h),fun j h=>ap _ _ (G.nk j h),G.inj,G.nd,G.le,G.cl⟩
theorem bO{a b:Ob}(h1:H[i]? =some a)(h2:H[j]? =some b)(h:a≠b):i≠j:=fun e=>by rw[e,h2] at h1;exact h (Option.some.inj h1).symm
theorem eS.setG(G:eS pm ups kept ends H rt done rf){g:Nat}{x:List V}(hg:H[g]? =some (.l x))(hne:∀ j∈done,(rf j).2.2≠g)(y:List V):eS pm ups kept ends (H.set g (.l y)) rt done rf:=by
 have st:∀ (i:Nat) (o:Ob),H[i]? =some o→i≠g→(H.set g (.l y))[i]? =some o:=fun i o e h=>by rw[List.getElem?_set_ne (Ne.symm h)];exact e
 exact⟨st _ _ G.dict (bO G.dict hg nofun),fun j h=>st _ _ (G.nf j h) (bO (G.nf j h) hg nofun),fun j h=>st _ _ (G.nn j h) (bO (G.nn j h) hg nofun),fun j h=>st _ _ (G.nk j h) (hne j h),G.inj,G.nd,G.le,G.cl⟩
noncomputable def kD(rf:Nat→xc)(kid n:Nat):Nat→xc:=fun i=>if i=kid then (n,n+2,n+1) else rf i
theorem eS.add(G:eS pm ups kept ends H rt done rf){kid:Nat}(h1:1≤kid)(h5:kid≤5)(hk:kid∉done)(hp:p∈done)(hup:ups.getD kid 0=p)(hlt:p < kid):
  eS pm ups kept ends (((H++[Ob.f (some (H.length+2)),.l [],.n eI (kq pm kept ends kid (H.length+1))]).set (rf p).2.2 (.l (bV ups done rf p++[.ob H.length]))).set rt (.d (done.map bH++[bH kid]) ((done.map fun j=>V.ob (rf j).1)++[.ob H.length])))
   rt (done++[kid]) (kD rf kid H.length):=by
 have rfo:∀ j∈done,kD rf kid H.length j=rf j:=fun j h=>if_neg fun(e:j=kid)=>hk (e▸h);have rfk:kD rf kid H.length kid=(H.length,H.length+2,H.length+1):=if_pos rfl;have lk:=b0 (G.nk p hp);have lt:=b0 G.dict;have krt:(rf p).2.2≠rt:=bO (G.nk p hp) G.dict nofun
 have old:∀ (i:Nat) (o:Ob),H[i]? =some o→i≠(rf p).2.2→i≠rt→(((H++[Ob.f (some (H.length+2)),.l [],.n eI (kq pm kept ends kid (H.length+1))]).set (rf p).2.2 (.l (bV ups done rf p++[.ob H.length]))).set rt (.d (done.map bH++[bH kid]) ((done.map fun j=>V.ob (rf j).1)++[.ob H.length])))[i]? =some o:=fun i o e q1 q2=>by
  rw[List.getElem?_set_ne (Ne.symm q2),List.getElem?_set_ne (Ne.symm q1),List.getElem?_append_left (b0 e)];exact e
 have new:∀ (m:Nat) (o:Ob),[Ob.f (some (H.length+2)),.l [],.n eI (kq pm kept ends kid (H.length+1))][m]? =some o→(((H++[Ob.f (some (H.length+2)),.l [],.n eI (kq pm kept ends kid (H.length+1))]).set (rf p).2.2 (.l (bV ups done rf p++[.ob H.length]))).set rt (.d (done.map bH++[bH kid]) ((done.map fun j=>V.ob (rf j).1)++[.ob H.length])))[H.length+m]? =some o:=fun m o e=>by
  rw[List.getElem?_set_ne (by omega),List.getElem?_set_ne (by omega),List.getElem?_append_right (by omega),Nat.add_sub_cancel_left];exact e
 have kr:∀ j,bV ups (done++[kid]) (kD rf kid H.length) j=bV ups done rf j++(if p=j then [.ob H.length] else []):=fun j=>by
  unfold bV;rw[List.filter_append,List.map_append];congr 1
  ·exact List.map_congr_left fun i hi=>by rw[rfo i (List.mem_filter.mp hi).1]
  ·rw[List.filter_cons,List.filter_nil,hup]
   by_cases q:p=j
   ·rw[if_pos (by simp[h1,q]),if_pos q,List.map_cons,List.map_nil,rfk]
   ·rw[if_neg (by simp[q]),if_neg q];rfl
 refine⟨?_,fun j h=>?_,fun j h=>?_,fun j h=>?_,fun i hi j hj e=>?_,?_,fun j h=>?_,fun j h hj1=>?_⟩
 ·rw[List.getElem?_set_self (by rw[List.length_set,List.length_append];omega),List.map_append,List.map_append];congr 3
  ·exact List.map_congr_left fun j hj=>by rw[rfo j hj]
  ·simp[rfk]
 ·rcases List.mem_append.mp h with h | h
  ·rw[rfo j h];exact old _ _ (G.nf j h) (bO (G.nf j h) (G.nk p hp) nofun) (bO (G.nf j h) G.dict nofun)
  ·rw[List.mem_singleton.mp h,rfk];exact new 0 _ rfl
 ·rcases List.mem_append.mp h with h | h
  ·rw[rfo j h];exact old _ _ (G.nn j h) (bO (G.nn j h) (G.nk p hp) nofun) (bO (G.nn j h) G.dict nofun)
  ·rw[List.mem_singleton.mp h,rfk];exact new 2 _ rfl
 ·rw[kr];rcases List.mem_append.mp h with h | h
  ·rw[rfo j h]
   by_cases q:p=j
   ·subst q;rw[if_pos rfl,List.getElem?_set_ne (Ne.symm krt),List.getElem?_set_self (by rw[List.length_append];omega)]
   ·rw[if_neg q,List.append_nil];exact old _ _ (G.nk j h) (fun e=>q (G.inj j h p hp e).symm) (bO (G.nk j h) G.dict nofun)
  ·rw[List.mem_singleton.mp h,rfk,if_neg (by omega),List.append_nil]
   have:bV ups done rf kid=[]:=by
    unfold bV;rw[List.filter_eq_nil_iff.mpr,List.map_nil];intro i hi q;simp only[Bool.and_eq_true,decide_eq_true_eq] at q;exact hk (q.2▸G.cl i hi q.1)
   rw[this];exact new 1 _ rfl
 ·rcases List.mem_append.mp hi with hi | hi <;> rcases List.mem_append.mp hj with hj | hj
  ·rw[rfo i hi,rfo j hj] at e;exact G.inj i hi j hj e
  ·rw[rfo i hi,List.mem_singleton.mp hj,rfk] at e;have:=b0 (G.nk i hi);rw[e] at this;dsimp only at this;omega
  ·rw[rfo j hj,List.mem_singleton.mp hi,rfk] at e;have:=b0 (G.nk j hj);rw[←e] at this;dsimp only at this;omega
  ·rw[List.mem_singleton.mp hi,List.mem_singleton.mp hj]
 ·exact List.nodup_append.mpr ⟨G.nd,List.nodup_cons.mpr ⟨List.not_mem_nil,List.nodup_nil⟩,fun a ha b hb e=>by rw[List.mem_singleton.mp hb] at e;exact hk (e▸ha)⟩
 ·rcases List.mem_append.mp h with h | h
  ·exact G.le j h
  ·rw[List.mem_singleton.mp h];exact h5
 ·rcases List.mem_append.mp h with h | h
  ·exact List.mem_append_left _ (G.cl j h hj1)
  ·rw[List.mem_singleton.mp h,hup];exact List.mem_append_left _ hp
variable{kx:X→Hp→Prop}
structure gD(gps hps:List (Str × Str))(ups:List Nat)(kept:List Str)(ends:List Nat):Prop where
 l1:gps.length≤1000
 l2:hps.length≤1000
 o1:∀ p∈gps,jW p
 o2:∀ p∈hps,jW p
 all:∀ p,p≤5→gh gps (bH p)=(aD ups p).map bH
 get:∀ k,1≤k→k≤5→lL hps (jD k) (Str.ofString "")=kept.getD k ⟨#[]⟩
 up:∀ k,1≤k→k≤5→ups.getD k 0 < k
 el:ends.length=6
theorem oJ(i:Nat)(h:i < 6):(Txt.lower (bH i)).cps.size≤1000∧(Txt.lower (bH i)).cps.any aW=false∧(Txt.lower (jD i)).cps.size≤1000∧(Txt.lower (jD i)).cps.any aW=false:=by
 revert i;walk_at "k"
theorem sN(hi:i < 6)(hj:j < 6)(h:bH i=bH j):i=j:=by
 have:∀ i,i < 6→∀ j,j < 6→bH i=bH j→i=j:=by walk_at "k"
 exact this i hi j hj h
theorem sT(i:Nat)(h:i < 6):∃ rest,Builtin.Str.occurrences (Str.ofString "pdbeac") (bH i) 0 (Str.ofString "pdbeac").length 1=i::rest:=by
 refine n6 ?_ ?_ ?_ ?_ ?_ ?_ i (Nat.le_of_lt_succ h) <;> exact⟨[],by kernel_rfl⟩
theorem qj:∀ (ks:List Str) (l:List V) (x:Str) (u:V),ks.length=l.length→x∉ks→io ks l x u=(ks++[x],l++[u])
 | [],[]=>fun x u J J=>rfl
 | [],_::_=>fun J J h J=>by exists h
 | _::_,[]=>fun J J h J=>by exists h
 | k::ks,v::l=>fun x u h hx=>by
  have hk:¬ k=x:=fun e=>hx (e▸List.mem_cons_self);have ih:=qj ks l x u (Nat.succ.inj h) (fun q=>hx (List.mem_cons_of_mem _ q));rw[mu];rw[if_neg hk,ih];rfl
theorem iC{F:Nat→V}(hle:∀ j∈done,j≤5)(hp:p∈done)(hp5:p≤5):((done.map bH).zip (done.map F)).lookup (bH p)=some (F p):=by
 induction done with
 | nil=>exists hp
 | cons a done ih=>
  rw[List.map_cons,List.map_cons,List.zip_cons_cons,List.lookup_cons]
  by_cases q:a=p
  ·subst q;simp
  ·have:(bH p==bH a)=false:=by
    rw[beq_eq_false_iff_ne];exact fun e=>q (sN (by have:=hle a List.mem_cons_self;omega) (by omega) e.symm)
   rw[this];exact ih (fun j hj=>hle j (List.mem_cons_of_mem _ hj)) ((List.mem_cons.mp hp).resolve_left (Ne.symm q))
theorem fD{k:Nat}(h:k∈aD ups p):1≤k∧k≤5∧ups.getD k 0=p:=by
 refine am (fun h1 h2=>?_) (List.mem_filter.mp h);have:1≤k∧k≤5:=by simp at h1;omega
 exact⟨this.1,this.2,by simpa using h2⟩
structure o9(pm:Value)(ups:List Nat)(kept:List Str)(ends:List Nat)(H H':Hp)(rt:Nat)(done more:List Nat)(rf rf':Nat→xc):Prop where
 g:eS pm ups kept ends H' rt (done++more) rf'
 len:H.length≤H'.length
 same:∀ j∈done,rf' j=rf j
 new:∀ j∈more,H.length≤(rf' j).2.2
 fr:∀ r,r < H.length→r≠rt→(∀ j∈done,r≠(rf j).2.2)→H'[r]? =H[r]?
noncomputable abbrev sw(gps hps:List (Str × Str))(ends:List Nat)(rt p g:Nat):ai:=[("things",.ob rt),("letter",.str (bH p)),("hang",hsF gps),("head",hsF hps),("ends",al ends),("given",.ob g)]
inductive E1 (pm:Value) (ups:List Nat) (kept:List Str) (ends:List Nat) (gps hps:List (Str × Str)) (H:Hp) (rt:Nat) (done:List Nat) (rf:Nat→xc) (f p:Nat) (mr:List Nat) (ρ:ai) (H':Hp):Prop
 | mk (rf':Nat→xc):o9 pm ups kept ends H H' rt done mr rf rf'→H.length < H'.length→H'[H.length]? =some (.l (mr.map (m0 kept)))→(∀ j∈done++mr,(rf' j).2.2≠H.length)→ρ=sw gps hps ends rt p H.length→E1 pm ups kept ends gps hps H rt done rf f p mr ρ H'
theorem sx{pm:Value}(ok2:dz K pm){gps hps:List (Str × Str)}{ups:List Nat}{kept:List Str}{ends:List Nat}(I:gD gps hps ups kept ends){rt:Nat}:
  ∀ (f p:Nat) {hd:Hd} {k:V→Hp→Prop} {kx:X→Hp→Prop} {H:Hp} {done:List Nat} {rf:Nat→xc},hd.h=true→6≤p+f→p≤5→eS pm ups kept ends H rt done rf→p∈done→(done++dK ups f p).Nodup→
   (∀ g H' rf',o9 pm ups kept ends H H' rt done (dK ups f p) rf rf'→H.length≤g→H'[g]? =some (.l ((dK ups f p).map (m0 kept)))→(∀ j∈done++dK ups f p,(rf' j).2.2≠g)→k (.ob g) H')→
   Pr prog w K (d+f+3) hd [.ob rt,.str (bH p),hsF gps,hsF hps,al ends] (fun vs=>call (.ref 360) vs) H k kx
 | 0,p,hd,k,kx,H,done,rf,hh,h6,h5,G,hp,hnd,h=>by omega
 | f+1,p,hd,k,kx,H,done,rf,hh,h6,h5,G,hp,hnd,h=>by
  obtain⟨hb,top⟩:=hd;exists hh;have ok:=ok2.ok;refine am (fun hcf hck=>?_) ((ok.hsF (245,7,["self","name"]) ∅).at);obtain⟨hgf,hgk⟩:=ok.hsGet.at
  refine bp (ρ0:=[("things",.ob rt),("letter",.str (bH p)),("hang",hsF gps),("head",hsF hps),("ends",al ends)]) (ok.fn (360,27,["things","letter","hang","head","ends"]) ∅) rfl rfl fun env hsc=>?_;walk_at "f";walk_at "mv";walk_at "asg";refine aZ ?_
  repeat walk_at "mv"
  apply ad hsc ⋯
  ·walk_at "d"
  walk_at "mv";refine dk (fun J=>rfl) ?_;refine aX ?_;refine bZ rfl rfl rfl hck ?_;walk_at "mv";refine⟨bN ok ∅ hcf iF ∅,?_⟩
  repeat walk_at "mv"
  have hlw:=oJ p (by omega);refine lP ok rfl I.l1 I.o1 (by show(1:Nat)≤1000;decide) hlw.1 hlw.2.1 ?_;rw[I.all p h5];refine⟨_,aS rfl,?_⟩;refine bG (fun i=>E1 pm ups kept ends gps hps H rt done rf f p (((aD ups p).take i).flatMap fun kid=>kid::dK ups f kid)) ?_ ?_ ?_
  ·rintro i u ρ H1 hu ⟨rf1,P,hlt,hg,hng,rfl⟩;rw[List.getElem?_map,List.getElem?_map] at hu;refine ab (fun J hx t=>?_) (Option.map_eq_some_iff.mp hu);obtain rfl:=t;refine ab (fun kid hki t=>?_) (Option.map_eq_some_iff.mp hx);obtain rfl:=t;refine gT (fun hk1 hk5 hkp=>?_) (fD (List.mem_of_getElem? hki));have hpk:p < kid:=by have:=I.up kid hk1 hk5;omega
   have hsplit:dK ups (f+1) p=((aD ups p).take i).flatMap (fun kid=>kid::dK ups f kid)++((kid::dK ups f kid)++((aD ups p).drop (i+1)).flatMap fun kid=>kid::dK ups f kid):=by
    show(aD ups p).flatMap _=_
    conv=>lhs;rw[←List.take_append_drop i (aD ups p),on hki,List.flatMap_append,List.flatMap_cons]
   have htake:((aD ups p).take (i+1)).flatMap (fun kid=>kid::dK ups f kid)=((aD ups p).take i).flatMap (fun kid=>kid::dK ups f kid)++(kid::dK ups f kid):=by
    rw[List.take_add_one,hki,List.flatMap_append];simp
   rw[hsplit] at hnd;generalize ((aD ups p).take i).flatMap (fun kid=>kid::dK ups f kid)=mr at P hg hng hnd htake
   have hnd2:((done++mr)++(kid::dK ups f kid)).Nodup:=by
    rw[←List.append_assoc,←List.append_assoc] at hnd;exact(List.nodup_append.mp hnd).1
   have hknd:kid∉done++mr:=fun q=>(List.nodup_append.mp hnd2).2.2 kid q kid List.mem_cons_self rfl;have hpd:p∈done++mr:=List.mem_append_left _ hp
   have hdl:(done++mr).length≤6:=by
    have:=P.g.nd.length_le_of_subset (l₂:=List.range 6) fun j hj=>List.mem_range.mpr (Nat.lt_succ_of_le (P.g.le j hj))
    rwa [List.length_range] at this
   have hml:mr.length≤6:=by rw[List.length_append] at hdl;omega
   apply ad hsc ⋯
   ·walk_at "d"
   walk_at "mv";refine aR rfl ?_;refine bl (id:="list.append") rfl rfl rfl ?_;walk_at "mv";refine⟨bM hg,?_⟩;walk_at "mv";refine jO (ρ':=[("head",hsF hps),("kid",.str (bH kid))]) ?_ ?_
   ·intro x u' hm;simp only[List.mem_cons,List.not_mem_nil,or_false] at hm;rcases hm with hm | hm
    ·exists hm;exact⟨hsF hps,by walk_at "s",.fin (.cons (.lst (aM.same _ (ig 0 hps))) .nil)⟩
    ·exists hm;exact⟨.str (bH kid),by walk_at "s",.str⟩
   ·with_reducible refine gJ (by with_unfolding_all rfl) (by with_unfolding_all rfl) (by with_unfolding_all decide) (by with_unfolding_all decide) ?_
    walk_at "mv";refine bZ rfl rfl rfl hgk ?_;walk_at "mv";refine⟨bN ok ∅ hgf A1 ∅,?_⟩;walk_at "mv";refine fy (id:="str.upper") rfl ?_;walk_at "mv";refine⟨pD,qi (by show(1:Nat)≤_;decide) ?_⟩;rw[w4 kid (by omega)]
    repeat walk_at "mv"
    have hlk:=oJ kid (by omega);refine v7 ok rfl I.l2 I.o2 (by show(1:Nat)≤1000;decide) hlk.2.2.1 hlk.2.2.2 ?_;rw[I.get kid hk1 hk5]
    repeat walk_at "mv"
    refine⟨by walk_at "k",by decide,rfl,w3,[.str (kept.getD kid ⟨#[]⟩),.str (Str.ofString "no")],rfl,rfl,rfl,?_⟩;walk_at "mv";refine bF hg (by walk_at "s";omega) ?_;obtain⟨H2,hH2⟩:∃ H2,H2=H1.set H.length (.l (mr.map (m0 kept)++[V.dct w3 [.str (kept.getD kid ⟨#[]⟩),.str (Str.ofString "no")]])):=⟨_,rfl⟩;rw[←hH2];have G1:eS pm ups kept ends H2 rt (done++mr) rf1:=by rw[hH2];exact P.g.setG hg hng _
    have hl2:H2.length=H1.length:=by rw[hH2,List.length_set]
    have hg2:H2[H.length]? =some (.l (mr.map (m0 kept)++[m0 kept kid])):=by rw[hH2];exact List.getElem?_set_self (by omega)
    have ho2:∀ r,r≠H.length→H2[r]? =H1[r]? :=fun r q=>by rw[hH2];exact List.getElem?_set_ne (Ne.symm q)
    clear hH2;walk_at "mv";walk_at "asg";refine tU (n:=3) (names:=[Str.ofString "tail"]) rfl rfl ok.sub.at.2 rfl rfl rfl ?_;refine eE ok hsc (x:="SubElement") (a:=47) ∅ ⋯ ⋯ ?_;refine⟨rfl,?_⟩;walk_at "mv";walk_at "ix";walk_at "2";refine⟨zA G1.dict,nL G1.dict (iC (F:=fun j=>.ob (rf1 j).1) G1.le hpd h5) ?_⟩;walk_at "3";walk_at "ix";walk_at "mv";refine kT (jN ⟨1,rfl,?_⟩);refine⟨nA hg2,f7 (u:=m0 kept kid) hg2 (by decide) (by walk_at "s";omega) ?_ (by walk_at "s";omega) ?_⟩
    ·rw[show(-1+((mr.map (m0 kept)++[m0 kept kid]).length:Int)).toNat=(mr.map (m0 kept)).length from by rw[EE,List.length_append];rfl,List.getElem?_concat_length]
    walk_at "mv";refine⟨rfl,eU ?_⟩;walk_at "ixn";walk_at "8";walk_at "2";walk_at "ixn";walk_at "mv"
    with_reducible refine bl (id:="str.index") (by with_unfolding_all rfl) (by with_unfolding_all rfl) (by with_unfolding_all rfl) ?_
    walk_at "mv";refine⟨ki,?_⟩;walk_at "3";refine af (fun orest hocc=>?_) (sT kid (by omega));refine jt hocc ?_;refine⟨_,kid,ah (ends.getD kid 0),.l,rfl,?_,by simp[I.el],?_⟩
    ·rw[List.getElem?_map,gd 0 (by rw[I.el];omega)];rfl
    walk_at "mv";refine lc (c:=3) rfl (by decide) ?_;refine⟨_,ends.getD kid 0 % 3,li (ends.getD kid 0),.l,rfl,?_,by decide,?_⟩
    ·unfold li;exact gd (l:=[V.none,.str (Str.ofString ""),.str (Str.ofString "z")]) V.none (Nat.mod_lt _ (by decide))
    refine gG ?_
    have hkr:(bV ups (done++mr) rf1 p).length≤100:=by
     unfold bV;rw[List.length_map];exact Nat.le_trans (List.length_filter_le _ _) (by omega)
    refine Bt ok2 rfl (G1.nf p hpd) (G1.nn p hpd) (G1.nk p hpd) hkr ?_;refine u5 ?_;walk_at "2";have hkt:(rf1 p).2.2≠rt:=bO (G1.nk p hpd) G1.dict nofun
    refine rz (ks:=(done++mr).map bH) (l:=(done++mr).map fun j=>.ob (rf1 j).1) (by rw[List.getElem?_set_ne hkt,List.getElem?_append_left (b0 G1.dict)];exact G1.dict) (by rw[List.length_map];omega) ?_;rw[qj _ _ _ _ (by walk_at "s") (fun q=>by refine ab (fun j hj e=>?_) (List.mem_map.mp q);exact hknd ((sN (by have:=G1.le j hj;omega) (by omega) e)▸hj))]
    obtain⟨H3,hH3,G2,hl3,ho3⟩:∃ H3,H3=((H2++[Ob.f (some (H2.length+2)),.l [],.n eI (kq pm kept ends kid (H2.length+1))]).set (rf1 p).2.2 (.l (bV ups (done++mr) rf1 p++[.ob H2.length]))).set rt (.d ((done++mr).map bH++[bH kid]) (((done++mr).map fun j=>V.ob (rf1 j).1)++[.ob H2.length]))∧
      eS pm ups kept ends H3 rt ((done++mr)++[kid]) (kD rf1 kid H2.length)∧H3.length=H2.length+3∧∀ r,r≠rt→r≠(rf1 p).2.2→r < H2.length→H3[r]? =H2[r]? :=
     ⟨_,rfl,G1.add hk1 hk5 hknd hpd hkp hpk,by walk_at "s",fun r q1 q2 q3=>by rw[List.getElem?_set_ne (Ne.symm q1),List.getElem?_set_ne (Ne.symm q2),List.getElem?_append_left q3]⟩
    unfold kq at hH3;rw[←hH3];clear hH3;have hgt:H.length≠rt:=fun e=>by have:=G1.dict;rw[←e,hg2] at this;exists this
    have hg3:H3[H.length]? =some (.l (mr.map (m0 kept)++[m0 kept kid])):=by rw[ho3 _ hgt (Ne.symm (hng p hpd)) (by omega)];exact hg2
    have hra:∀ j∈done++mr,kD rf1 kid H2.length j=rf1 j:=fun j h=>if_neg fun(e:j=kid)=>hknd (e▸h);have hrk:kD rf1 kid H2.length kid=(H2.length,H2.length+2,H2.length+1):=if_pos rfl
    have hng3:∀ j∈(done++mr)++[kid],(kD rf1 kid H2.length j).2.2≠H.length:=fun j hj=>by
     rcases List.mem_append.mp hj with hj | hj
     ·rw[hra j hj];exact hng j hj
     ·rw[List.mem_singleton.mp hj,hrk];show H2.length+1≠_;omega
    walk_at "mv";refine aR rfl ?_;refine bl (id:="list.extend") rfl rfl rfl ?_;walk_at "mv";refine⟨t8 hg3,?_⟩;walk_at "mv";refine eV ok hsc (x:="_law_grow") (a:=360) ∅ (ok.fn (360,27,["things","letter","hang","head","ends"]) ∅).obj ⋯ ⋯ rfl rfl ?_
    repeat walk_at "mv"
    refine sx ok2 I f kid rfl (by omega) hk5 G2 (by walk_at "s") (by rw[List.append_assoc];exact hnd2) fun g4 H4 rf4 P4 h4 hg4 hng4=>?_
    repeat walk_at "mv"
    have hf4:H4[H.length]? =some (.l (mr.map (m0 kept)++[m0 kept kid])):=by rw[P4.fr _ (by omega) hgt fun j hj=>Ne.symm (hng3 j hj)];exact hg3
    refine uA hf4 (.inr ⟨g4,by omega,rfl,hg4⟩) ?_ ?_
    ·have:=P4.g.nd.length_le_of_subset (l₂:=List.range 6) fun j hj=>List.mem_range.mpr (Nat.lt_succ_of_le (P4.g.le j hj));simp only[List.length_range,List.length_append,List.length_singleton,List.length_map] at this ⊢;omega
    walk_at "mv"
    have hrs:∀ j∈(done++mr)++(kid::dK ups f kid),(rf4 j).2.2≠H.length:=fun j hj=>by
     rw[List.append_cons] at hj;rcases List.mem_append.mp hj with hj | hj
     ·rw[P4.same j hj];exact hng3 j hj
     ·have:=P4.new j hj;omega
    refine⟨sw gps hps ends rt p H.length,?_,?_⟩
    ·walk_at "in"
    rw[htake];refine⟨rf4,⟨?_,?_,fun j hj=>?_,fun j hj=>?_,fun r hr1 hr2 hr3=>?_⟩,?_,?_,?_,rfl⟩
    ·have:=P4.g.setG hf4 (fun j hj=>hrs j (by rw[List.append_cons];exact hj)) (mr.map (m0 kept)++[m0 kept kid]++(dK ups f kid).map (m0 kept))
     rwa [show(done++mr++[kid])++dK ups f kid=done++(mr++kid::dK ups f kid) from by simp] at this
    ·rw[List.length_set];have:=P4.len;omega
    ·rw[P4.same j (by simp[hj]),hra j (List.mem_append_left _ hj),P.same j hj]
    ·rcases List.mem_append.mp hj with hj | hj
     ·rw[P4.same j (by simp[hj]),hra j (List.mem_append_right _ hj)];exact P.new j hj
     ·rcases List.mem_cons.mp hj with rfl | hj
      ·rw[P4.same _ (by walk_at "s"),hrk];show _≤H2.length+1;omega
      ·have:=P4.new j hj;omega
    ·have hkr:r≠(rf1 p).2.2:=by rw[P.same p hp];exact hr3 p hp
     rw[List.getElem?_set_ne (by omega),P4.fr r (by omega) hr2 fun j hj=>?_,ho3 r hr2 hkr (by omega),ho2 r (by omega),P.fr r hr1 hr2 hr3];rcases List.mem_append.mp hj with hj | hj
     ·rw[hra j hj];rcases List.mem_append.mp hj with hj | hj
      ·rw[P.same j hj];exact hr3 j hj
      ·have:=P.new j hj;omega
     ·rw[List.mem_singleton.mp hj,hrk];show _≠H2.length+1;omega
    ·rw[List.length_set];have:=P4.len;omega
    ·rw[List.getElem?_set_self (by have:=P4.len;omega)];simp
    ·exact fun j hj=>hrs j (by rw[List.append_assoc];exact hj)
  ·refine⟨rf,⟨?_,?_,fun j J=>rfl,fun j hj=>?_,fun r hr J J=>?_⟩,?_,?_,fun j hj=>?_,rfl⟩
   ·simpa using G.app [Ob.l []]
   ·walk_at "s"
   ·simp at hj
   ·rw[List.getElem?_append_left hr]
   ·walk_at "s"
   ·walk_at "s"
   ·have:=b0 (G.nk j (by simpa using hj));omega
  ·rintro ρ' H' ⟨rf',P,hlt,hg,hng,rfl⟩;rw[List.length_map,List.length_map,List.take_length] at P hg hng;walk_at "3";exact h _ _ _ P (Nat.le_refl _) hg hng
variable{kx:X→Hp→Prop}
variable{e1 e2:PySem.Expr}
theorem Ab(h:Ev prog w K d hd env ρ (eval e1 env) H (fun u H1=>Tr prog w K d hd u H1 (fun b H2=>match b with | true=>k u H2 | false=>Ev prog w K d hd env ρ (eval e2 env) H2 k kx) kx) kx):
  Ev prog w K d hd env ρ (eval (.BoolOp .Or [e1,e2] pos) env) H k kx:=by
 intro A σ Z s Q E hA S F hQ hE;show wpAny _ A (do let v←eval e1 env;standAt pos;let t←holding [v] (truthy v);match BoolOp.Or,t with | .And,false | .Or,true=>pure v | _,_=>eval e2 env) Q E s;refine wpAny_bind (h A σ Z s _ _ hA S F (fun v s1 σ1 u H1 g1 S1 hu hk=>wpAny_bind (wpAny_standAt (wpAny_bind (wpAny_holding ?_)))) hE);refine hk A σ1 Z s1 v _ _ hA S1 hu (fun b s2 σ2 H2 g2 S2 hk2=>?_) (hE.go g1);cases b with
 | true=>exact wpAny_pure (hQ v s2 σ2 u H2 (g1.trans g2) S2 (VR.go g2 (fun J h=>nomatch h) _ hu) hk2)
 | false=>
  exact hk2 A σ2 Z s2 _ _ hA S2 ((F.go S g1).go S1 g2) (fun v s' σ' x H' g' S' hx=>hQ v s' σ' x H' ((g1.trans g2).trans g') S' hx) (fun e s' σ' x H' g' S' hx=>hE e s' σ' x H' ((g1.trans g2).trans g') S' (hx.old (g1.trans g2)))
noncomputable def aU(e:Nat):Str:=if e % 3=2 then Str.ofString "z" else ⟨#[]⟩
noncomputable def bk(pm:Value)(ups:List Nat)(kept:List Str)(ends:List Nat):Nat→Nat→V
 | 0,_=>.none
 | f+1,j=>.thg eI [lA pm (.lst ((aD ups j).map (bk pm ups kept ends f))) (.dct w3 [.str (kept.getD j ⟨#[]⟩),li (ends.getD j 0)]),.gl 353,.bm "list.append" (.lst ((aD ups j).map (bk pm ups kept ends f))),li (ends.getD j 0),.str (bH j)]
noncomputable def z4:V→Nat
 | .thg _ [_,_,_,_,.str t]=>(bE.find? fun j=>bH j==t).getD 0
 | _=>0
theorem vp(j:Nat)(h1:1≤j)(h5:j≤5):(bE.find? fun i=>bH i==bH j).getD 0=j:=by
 refine ED ?_ ?_ ?_ ?_ ?_ j h1 h5 <;> walk_at "k"
theorem xN(l:List Nat)(P:Nat→Prop)[DecidablePred P](G:Nat→List α):(l.flatMap fun i=>if P i then G i else [])=(l.filter fun i=>decide (P i)).flatMap G:=by
 induction l with
 | nil=>rfl
 | cons a l ih=>
  rw[List.flatMap_cons,ih,List.filter_cons]
  by_cases q:P a
  ·rw[if_pos q,if_pos (by simpa using q),List.flatMap_cons]
  ·rw[if_neg q,if_neg (by simpa using q),List.nil_append]
theorem yz(e:Nat){pos2:Pos}{o:PySem.Expr}(h:Ev prog w K d hd env ρ (eval o env) H (fun u H1=>u=li e∧k (.str (aU e)) H1) kx):Ev prog w K d hd env ρ (eval (.BoolOp .Or [o,.Constant (.str (Str.ofString "")) 0 pos2] pos) env) H k kx:=by
 refine Ab ?_;intro A σ Z s Q E hA S F hQ hE;refine h A σ Z s Q E hA S F (fun v s' σ' u H' g S' hu hk=>hQ v s' σ' u H' g S' hu ?_) hE
 revert hk;refine am fun q hk=>?_;obtain rfl:=q
 have h3:e % 3 < 3:=Nat.mod_lt _ (by decide);have e0:(⟨#[]⟩:Str)=Str.ofString "":=by walk_at "k"
 unfold li;unfold aU at hk;clear hu
 revert hk
 generalize e % 3=m at h3 ⊢;refine n3 ?_ ?_ ?_ m h3
 ·
  intro hk;refine lj ?_;refine fP ?_;rw[if_neg (by decide),e0] at hk;exact hk
 ·
  intro hk;refine mD ∅ ?_;rw[show(((Str.ofString "").length:Int) != 0)=false from by walk_at "k"];refine fP ?_;rw[if_neg (by decide),e0] at hk;exact hk
 ·
  intro hk;refine mD ∅ ?_;rw[show(((Str.ofString "z").length:Int) != 0)=true from by walk_at "k"];exact hk
noncomputable def D3(prog:Program)(w:World)(K:Frag)(d:Nat)(H:Hp)(pm:Value)(ups:List Nat)(kept:List Str)(ends:List Nat)(f:Nat):Prop:=
 ∀ (p:Nat) {hd:Hd} {k:V→Hp→Prop} {kx:X→Hp→Prop} {tl:V},hd.h=true→6≤p+(f+1)→p≤5→k (.lst ((cJ ups kept (ends.map aU) (f+1) p).map V.str)) H→
  Pr prog w K (d+f+1) hd [lA pm (.lst ((aD ups p).map (bk pm ups kept ends f))) (.dct w3 [.str (kept.getD p ⟨#[]⟩),tl])] cV H k kx
theorem sJ(ok2:dz K pm)(hup:∀ i,1≤i→i≤5→ups.getD i 0 < i)(he:ends.length=6)(f:Nat)(ih:∀ f',f=f'+1→D3 prog w K d H pm ups kept ends f'):D3 prog w K d H pm ups kept ends f:=by
  intro p hd k kx tl hh h1 h2 h;obtain⟨hb,top⟩:=hd;exists hh;have ok:=ok2.ok;refine zY fun env hsc=>?_;unfold lW av;dsimp only[pw,PySem.Challenge.pw_tc0090_01,List.getElem?_cons_succ,List.getElem?_cons_zero];walk_at "3";walk_at "ix";walk_at "2";refine⟨rfl,ie (u:=.str (kept.getD p ⟨#[]⟩)) ⋯ ?_⟩;walk_at "2";refine au hsc ?hg ⋯ (ag.skip (ag.skip ag.nil)) ?_
  case hg=>
   intro g' hg';rcases List.mem_cons.mp hg' with rfl | hg'
   ·exact⟨rfl,fun J J=>rfl⟩
   ·rw[List.mem_singleton.mp hg'];exact⟨rfl,fun J J=>rfl⟩
  refine aX ?_;walk_at "mv";refine⟨_,aS rfl,fun cenv Xw hc=>?_⟩
  let G:Nat→List Str:=fun kid=>cJ ups kept (ends.map aU) f kid++[(ends.map aU).getD kid ⟨#[]⟩]
  have hdec:∀ kid,kid∈aD ups p→z4 (bk pm ups kept ends f kid)=kid∧∃ f',f=f'+1:=fun kid hk=>by
   refine gT (fun q1 q5 qp=>?_) (fD hk);have:=hup kid q1 q5;obtain⟨f',rfl⟩:∃ f',f=f'+1:=⟨f - 1,by omega⟩;exact⟨vp kid q1 q5,f',rfl⟩
  have hfl:(((aD ups p).map (bk pm ups kept ends f)).flatMap fun u=>if (fun J=>true) u then (fun u=>(G (z4 u)).map V.str) u else [])=(bE.flatMap fun kid=>if ups.getD kid 0=p then G kid else []).map V.str:=by
   rw[xN,List.flatMap_map,List.map_flatMap];show List.flatMap _ (aD ups p)=List.flatMap _ (aD ups p);rw[List.flatMap_def,List.flatMap_def];congr 1
   exact List.map_congr_left fun kid hk=>by
    simp only[if_true];rw[(hdec kid hk).1]
  have hlen:=dW (kept:=kept) (tails:=ends.map aU) hup (f+1) p h2
  have hlen2:(bE.flatMap fun kid=>if ups.getD kid 0=p then G kid else []).length≤64:=by
   have e:(cJ ups kept (ends.map aU) (f+1) p).length=(bE.flatMap fun kid=>if ups.getD kid 0=p then G kid else []).length+1:=rfl;exact Nat.le_trans (Nat.le_add_right _ 2) (Nat.le_trans hlen (Nat.pow_le_pow_right (by decide) (Nat.sub_le 6 p)))
  refine jV hc ⋯ ⋯ ⋯ ⋯ ⋯ (fun J=>true) (fun u=>(G (z4 u)).map V.str) _ [] _ (fun J q=>q) ?_ ?_ ?_ ?_
  ·rw[hfl,List.length_map];exact Nat.le_trans (Nat.le_of_eq (Nat.zero_add _)) (Nat.le_trans hlen2 (by decide))
  ·exact fun u J=>dN ⟨rfl,rfl⟩
  ·intro u hu' J;refine ab (fun kid hkid t=>?_) (List.mem_map.mp hu');obtain rfl:=t;refine gT (fun q1 q5 qp=>?_) (fD hkid);obtain⟨hdk,f',rfl⟩:=hdec kid hkid;have hlt:=hup kid q1 q5;rw[hdk];clear hdec hdk hfl;refine aX ?_;walk_at "mv";refine nu rfl ?_;walk_at "mv";refine⟨lA pm (.lst ((aD ups kid).map (bk pm ups kept ends f'))) (.dct w3 [.str (kept.getD kid ⟨#[]⟩),li (ends.getD kid 0)]),vY lJ rfl rfl,trivial,?_⟩;refine ih f' rfl kid rfl (by omega) q5 ?_;walk_at "2";refine yz (ends.getD kid 0) ?_;refine aI rfl ?_;walk_at "mv";refine fg jb (u:=li (ends.getD kid 0)) ⋯ ?_ ⟨rfl,?_⟩
   ·unfold li;have h3:ends.getD kid 0 % 3 < 3:=Nat.mod_lt _ (by decide)
    revert h3
    generalize ends.getD kid 0 % 3=m;intro h3;exact n3 rfl rfl rfl m h3
   walk_at "2";have hlk:=dW (kept:=kept) (tails:=ends.map aU) hup (f'+1) kid q5;have h2k:2 ^ (6 - kid)≤2 ^ 6:=Nat.pow_le_pow_right (by decide) (Nat.sub_le 6 kid);refine bx (by simp only[List.length_map,List.length_singleton];omega) ?_;refine⟨_,aS rfl,?_,rfl⟩;show(cJ ups kept (ends.map aU) (f'+1) kid).map V.str++[V.str (aU (ends.getD kid 0))]=(G kid).map V.str
   have:(ends.map aU).getD kid ⟨#[]⟩=aU (ends.getD kid 0):=by
    rw[List.getD_eq_getElem?_getD,List.getElem?_map,gd (l:=ends) 0 (i:=kid) (by rw[he];omega)];rfl
   rw[←this,List.map_append];rfl
  ·intro ρ';rw[hfl,List.nil_append];refine bx (by rw[List.length_map];exact Nat.le_trans (Nat.add_le_add_left hlen2 1) (by decide)) ?_;exact h
theorem Cs(ok2:dz K pm)(hup:∀ i,1≤i→i≤5→ups.getD i 0 < i)(he:ends.length=6)(f:Nat):D3 prog w K d H pm ups kept ends f:=by
 induction f with
 | zero=>exact sJ ok2 hup he 0 fun J e=>nomatch e
 | succ f ih=>exact sJ ok2 hup he (f+1) fun J e=>Nat.succ.inj e▸ih
variable{kx:X→Hp→Prop}
theorem gS(n:Nat):∀ l:List Str,bU n (l.map V.str)=true:=aC n V.str fun J=>rfl
noncomputable def tE(ups:List Nat)(kept:List Str)(ends:List Nat)(f p:Nat):List Str:=cJ ups kept (ends.map aU) f p++if ends.getD p 0 % 3=2 then [Str.ofString "z"] else []
theorem Bj(ok2:dz K pm)(hup:∀ i,1≤i→i≤5→ups.getD i 0 < i)(he:ends.length=6)(hh:hd.h=true)(h1:6≤p+(f+1))(h2:p≤5)(h:k .none [.l ((tE ups kept ends (f+1) p).map V.str)]):
  Pr prog w K (d+f+2) hd [.bm "list.append" (.ob 0),bk pm ups kept ends (f+1) p] (fun vs=>call (.ref 54) vs) [.l []] k kx:=by
 obtain⟨hb,top⟩:=hd;exists hh;have ok:=ok2.ok;have hlen:=dW (kept:=kept) (tails:=ends.map aU) hup (f+1) p h2;have hlen2:2 ^ (6 - p)≤2 ^ 6:=Nat.pow_le_pow_right (by decide) (Nat.sub_le 6 p);refine bp (ρ0:=[("write",.bm "list.append" (.ob 0)),("elem",bk pm ups kept ends (f+1) p)]) (ok.fn (54,4,["write","elem"]) ∅) rfl rfl fun env hsc=>?_;walk_at "f";walk_at "mv";refine dk (fun J=>rfl) ?_;refine aX ?_;refine nu rfl ?_;walk_at "mv";refine⟨lA pm (.lst ((aD ups p).map (bk pm ups kept ends f))) (.dct w3 [.str (kept.getD p ⟨#[]⟩),li (ends.getD p 0)]),vY lJ rfl rfl,trivial,?_⟩;refine Cs ok2 hup he f p rfl h1 h2 ?_;refine⟨_,aS rfl,?_⟩;unfold tE at h;generalize cJ ups kept (ends.map aU) (f+1) p=pg at h hlen ⊢;refine bG (fun i ρ H'=>H'=[.l ((pg.take i).map V.str)]∧ρ=[(Str.ofString "write",V.bm "list.append" (.ob 0)),("elem",bk pm ups kept ends (f+1) p)]) ?_ ⟨rfl,rfl⟩ ?_
 ·rintro i u ρ H1 hu ⟨rfl,rfl⟩;rw[List.getElem?_map] at hu;refine ab (fun x hx t=>?_) (Option.map_eq_some_iff.mp hu);obtain rfl:=t;apply ad hsc ⋯
  ·walk_at "d"
  walk_at "mv";refine aR rfl ?_;refine lF rfl rfl ?_;walk_at "mv";refine⟨trivial,?_⟩;walk_at "3";refine eM rfl (by walk_at "s";omega) ?_;walk_at "mv";refine⟨_,?_,?_,rfl⟩
  ·walk_at "in"
  ·rw[List.take_add_one,hx,List.map_append];rfl
 ·rintro ρ' H' ⟨rfl,rfl⟩;rw[List.length_map,List.take_length];have h3:ends.getD p 0 % 3 < 3:=Nat.mod_lt _ (by decide);have htl:(eI.zip [lA pm (.lst ((aD ups p).map (bk pm ups kept ends f))) (.dct w3 [.str (kept.getD p ⟨#[]⟩),li (ends.getD p 0)]),.gl 353,.bm "list.append" (.lst ((aD ups p).map (bk pm ups kept ends f))),li (ends.getD p 0),.str (bH p)]).lookup (Str.ofString "tail")=some (li (ends.getD p 0)):=by kernel_rfl
  have hnb:gk (li (ends.getD p 0))=true:=by
   unfold li;exact n3 rfl rfl rfl _ h3
  walk_at "2";refine bY rfl ?_;refine aI rfl ?_;walk_at "mv";refine fg jb htl hnb ?_;unfold li
  revert h
  generalize hm:ends.getD p 0 % 3=m at h3 ⊢
  revert hm
  refine n3 ?_ ?_ ?_ m h3 <;> intro hm
  ·
   intro h;refine lj ?_;walk_at "2";rw[if_neg (by decide),List.append_nil] at h;exact h
  ·
   intro h;refine mD ∅ ?_;rw[show(((Str.ofString "").length:Int) != 0)=false from by walk_at "k"];walk_at "2";rw[if_neg (by decide),List.append_nil] at h;exact h
  ·
   intro h;refine mD ∅ ?_;rw[show(((Str.ofString "z").length:Int) != 0)=true from by walk_at "k"];walk_at "mv";refine aR rfl ?_;refine lF rfl rfl ?_;walk_at "mv";refine⟨trivial,?_⟩;walk_at "mv";refine aI rfl ?_;walk_at "mv";refine fg jb htl hnb ?_;walk_at "mv";refine eM rfl (by walk_at "s";omega) ?_;walk_at "2";rw[if_pos rfl,List.map_append] at h;unfold li;rw[hm];exact h
theorem rU(ok2:dz K pm)(hup:∀ i,1≤i→i≤5→ups.getD i 0 < i)(he:ends.length=6)(hh:hd.h=true)(h1:6≤p+(f+1))(h2:p≤5)(h:k (.lst ((tE ups kept ends (f+1) p).map V.str)) []):
  Pr prog w K (d+f+3) hd [bk pm ups kept ends (f+1) p] (fun vs=>call (.ref 367) vs) [] k kx:=by
 obtain⟨hb,top⟩:=hd;exists hh;have ok:=ok2.ok;refine fH ?_;refine bp (ρ0:=[("thing",bk pm ups kept ends (f+1) p)]) (ok.fn (367,28,["thing"]) ∅) rfl rfl fun env hsc=>?_;walk_at "f";walk_at "mv";walk_at "asg";refine aZ ?_;walk_at "2";apply ad hsc ⋯
 ·walk_at "d"
 walk_at "mv";refine aR rfl ?_;refine eV ok hsc (x:="_serialize_text") (a:=54) ∅ (ok.fn (54,4,["write","elem"]) ∅).obj ⋯ ⋯ rfl rfl ?_;walk_at "mv";refine aI rfl ?_;walk_at "mv";refine gU rfl ?_
 repeat walk_at "mv"
 refine Bj ok2 hup he rfl h1 h2 ?_;walk_at "3";exact gK (H:=[]) rfl (.ol (Nat.zero_le _) rfl (aM.same _ (gS 0 _))) h
variable{kx:X→Hp→Prop}
@[irreducible] noncomputable def aH(i:Nat):List Stmt:=(av 30).drop i
@[irreducible] noncomputable def rc(i:Nat):Stmt:=((av 30)[i]?).getD (.Pass default)
theorem yg:(av 30).length=29:=by unfold av;rfl
theorem aB(i:Nat)(h:i < 29):aH i=rc i::aH (i+1):=by
 unfold aH rc;have hl:i < (av 30).length:=by rw[yg];exact h
 rw[List.getElem?_eq_getElem hl];exact List.drop_eq_getElem_cons hl
noncomputable def DY:V→Int | .int i=>i | _=>0
noncomputable def iI(scr:List Int)(place:Nat):List V:=cr (cr (scr.map V.int) none (some 60) none) (some (place:Int)) none (some 5)
noncomputable def y8(scr:List Int)(p:Nat × Nat):Nat:=p.2+((iI scr p.1).map fun v=>(DY v % 1000000).toNat).sum
noncomputable def qF:List (Nat × Nat):=[(0,11212),(1,54721),(2,46512),(3,83881),(4,31902)]
noncomputable def qJ(scr:List Int):List Nat:=qF.map (y8 scr)
theorem nH(l:List V)(lo hi st:Option Int):∀ u∈cr l lo hi st,u∈l:=fun u h=>by
 rw[cr] at h;refine ab (fun i J h=>?_) (List.mem_filterMap.mp h);exact List.mem_of_getElem? h
theorem ro(l:List V)(p:Nat):(cr l (some (p:Int)) none (some 5)).length≤l.length:=by
 rw[cr];refine Nat.le_trans (List.length_filterMap_le _ _) (sliceRange_length_le _ _ _ _ (fun J=>?_) fun h=>absurd (by unfold sliceBounds;simp) h);simp only[sliceBounds];walk_at "s";omega
theorem rq(scr:List Int)(place:Nat):iI scr place=((iI scr place).map DY).map V.int:=by
 rw[List.map_map]
 conv=>lhs;rw[←List.map_id (iI scr place)]
 refine List.map_congr_left fun u h=>?_;refine ab (fun i J t=>?_) (List.mem_map.mp (nH _ _ _ _ _ (nH _ _ _ _ _ h)));obtain rfl:=t;rfl
theorem qm(l:List Nat):(l.map fun n:Nat=>(n:Int)).sum=(l.sum:Int):=by
 induction l with
 | nil=>rfl
 | cons a l ih=>rw[List.map_cons,List.sum_cons,List.sum_cons,ih];omega
noncomputable abbrev eC(scr:List Int):Str×V:=("script",.lst (scr.map V.int))
variable{scr:List Int}{ks:Fl→ai→Hp→Prop}
theorem En(ok:bI K)(hsc:Sc env (aj 30) (own env))(hscr:scr.length≤63){kxs:X→ai→Hp→Prop}(h:Ex prog w K (d+1) ⟨true,top⟩ env [eC scr,("cells",al (qJ scr))] (execs (aH 1) env) [] ks kxs):
  Ex prog w K (d+1) ⟨true,top⟩ env [eC scr] (execs (aH 0) env) [] ks kxs:=by
 rw[aB 0 (by decide)];refine aw ?_;walk_at "l";refine di hsc ?hg ⋯ (ag.take ⋯ ag.nil) ⋯ ⋯ ⋯ (ρ':=fun u=>[eC scr,("cells",u)]) ?hp ?_
 case hg=>
  intro g' hg';rw[List.mem_singleton.mp hg'];exact⟨rfl,fun J J=>rfl⟩
 case hp=>
  intro u;walk_at "d"
 refine cp ok hsc ⋯ iU rfl rfl ?_
 repeat walk_at "mv"
 refine⟨_,wb rfl,fun cenv Xw hc=>?_⟩;have el:gH 0 [V.int 11212,.int 54721,.int 46512,.int 83881,.int 31902]=qF.map fun p=>V.tup [ah p.1,ah p.2]:=rfl;rw[el];refine nD (R:=fun ρ=>ρ=[(.ofString "script",.lst (scr.map V.int))]∨∃ p:Nat × Nat,ρ=[(.ofString "script",.lst (scr.map V.int)),(.ofString "place",ah p.1),(.ofString "begin",ah p.2)]) (p:=fun J=>true) (F:=fun p=>[ah (y8 scr p)]) qF [] _ (.inl rfl) (by show(5:Nat)≤1000;decide) (fun p hp ρ hR=>?_) fun ρ J=>?_
 ·refine de rfl (fun a h=>hc.ow a h) rfl rfl rfl ?_;refine ad hc ⋯ (ρ':=[eC scr,("place",ah p.1)]) ?_ ?_
  ·rcases hR with rfl | ⟨q,rfl⟩
   ·walk_at "d"
   ·exact ba.cons ⋯ ba.last
  apply ad hc ⋯
  ·walk_at "d"
  refine mT ?_;refine dN ⟨rfl,rfl,fun J acc' K' hl' hK=>?_,.inr ⟨p,rfl⟩⟩;simp only[List.length_singleton] at hl';refine And.intro (by omega) ?_;walk_at "2";refine cQ ok hc ⋯ qG rfl rfl ?_;walk_at "mv";refine au hc ?hg ⋯ (ag.skip (ag.skip (ag.skip ag.nil))) ?_
  case hg=>
   intro g' hg';rw[List.mem_singleton.mp hg'];exact⟨rfl,fun J J=>rfl⟩
  refine aX ?_;walk_at "ix";walk_at "slc"
  repeat walk_at "mv"
  refine⟨_,rfl,?_⟩
  repeat walk_at "mv"
  refine⟨rfl,eq (by rw[List.length_map];omega) (by decide) ?_⟩
  repeat walk_at "mv"
  refine⟨_,rfl,?_⟩
  repeat walk_at "mv"
  refine⟨_,rfl,?_⟩
  have hl60:(cr (scr.map V.int) none (some 60) none).length≤1000:=by
   rw[dX];exact Nat.le_trans (((List.take_sublist _ _).trans (List.drop_sublist _ _)).length_le) (by rw[List.length_map];exact Nat.le_trans hscr (by decide))
  refine⟨rfl,eq hl60 (by decide) ?_⟩;refine⟨_,aS rfl,fun cenv2 Xw2 hc2=>?_⟩;rw[show cr (cr (scr.map V.int) none (some 60) none) (some (p.1:Int)) none (some 5)=iI scr p.1 from rfl,rq];refine bL hc2 V.int (fun x=>.int (x % 1000000)) ⋯ ⋯ ?_ (fun x hx=>?_) fun ρ2=>?_
  ·rw[List.length_map];exact Nat.le_trans (ro _ _) hl60
  ·walk_at "mv";walk_at "2";refine ry (by decide) ⟨?_,rfl⟩;rw[Int.fmod_eq_emod_of_nonneg _ (by decide)]
  ·walk_at "mv"
   rw[show((iI scr p.1).map DY).map (fun x=>V.int (x % 1000000))=(((iI scr p.1).map fun v=>(DY v % 1000000).toNat).map fun n:Nat=>(n:Int)).map V.int from by
    rw[List.map_map,List.map_map,List.map_map];refine List.map_congr_left fun v J=>?_;simp only[Function.comp_apply];rw[Int.toNat_of_nonneg (Int.emod_nonneg _ (by decide))]]
   refine rB rfl ?_;refine jZ ?_;rw[qm];exact hK _ (.inr ⟨p,rfl⟩)
 ·rw[dU,List.nil_append];exact h
variable{kx:X→Hp→Prop}
noncomputable abbrev xg:=V × Str × Option (String × Str)
noncomputable def wx:List xg:=[(.none,⟨#[]⟩,some ("TypeError",Str.ofString "cannot serialize None (type NoneType)")),(.int 7,⟨#[]⟩,some ("TypeError",Str.ofString "cannot serialize 7 (type int)")),
 (.lst [.str (Str.ofString "&")],⟨#[]⟩,some ("TypeError",Str.ofString "cannot serialize ['&'] (type list)")),(.lst [.str (Str.ofString "x")],⟨#[]⟩,some ("AssertionError",eX))]
noncomputable def cW(hand cell:Nat):xg:=
 if cell / 100 % 10=9 then wx.getD (cell / 1000 % 10 % 4) default
 else if ir "\n" (aT hand (bb cell)) || ir "\r" (aT hand (bb cell)) then (.str (bb cell),⟨#[]⟩,some ("ValueError",iX))
 else (.str (bb cell),aT hand (bb cell),none)
noncomputable def bR:Option (String × Str)→V
 | none=>.none
 | some o=>.tup [.str (Str.ofString o.1),.str o.2]
noncomputable def iw(l:xg):V:=.tup [l.1,.str l.2.1,bR l.2.2]
theorem AH:eX=Str.ofString "Header names/values must be of type str (got ['x'])":=by walk_at "k"
theorem rP(hand cell:Nat):mC hand cell=iw (cW hand cell):=by
 have e0:Str.ofString ""=(⟨#[]⟩:Str):=by walk_at "k"
 unfold mC cW;split
 ·have h4:cell / 1000 % 10 % 4 < 4:=Nat.mod_lt _ (by decide);generalize cell / 1000 % 10 % 4=m at h4 ⊢;unfold mf wx iw bR;rw[e0];refine n4 rfl rfl rfl ?_ m h4;show V.tup _=V.tup [_,_,.tup [_,.str eX]];rw[AH];rfl
 ·split
  ·unfold iw bR;rw[e0];rfl
  ·rfl
noncomputable def tS(hand:Nat):List (Str × Str):=[pk,pn,po,pp,pq].getD hand []
noncomputable def rO(hand a b:Nat):Bool:=
 let x:=ce.getD a ⟨#[]⟩++ce.getD b ⟨#[]⟩
 let y:=aT hand x
 cx (tS hand) x&&decide (bw (tS hand) x=y)&&decide (y.cps.size≤100)&&(y.cps.any aF==(ir "\n" y || ir "\r" y))
theorem qr:∀ hand,hand < 5→∀ a,a < 9→∀ b,b < 10→rO hand a b=true:=by walk_at "k"
set_option tactic.hygienic true in
theorem yY(h5:hand < 5):Wr (tS hand) (cW hand cell).1 (cW hand cell).2.2 (cW hand cell).2.1:=by
 unfold cW;split
 ·have h4:cell / 1000 % 10 % 4 < 4:=Nat.mod_lt _ (by decide);generalize cell / 1000 % 10 % 4=m at h4 ⊢;exact n4 (.unw .none) (.unw .int) (.unw .lst) .x m h4
 ·rename_i h9;have ht:=qr hand h5 (cell / 100 % 10) (by omega) (cell / 1000 % 10) (by omega);unfold rO at ht;simp only[Bool.and_eq_true,decide_eq_true_eq,beq_iff_eq] at ht;obtain⟨⟨⟨t1,t2⟩,t3⟩,t4⟩:=ht;change cx (tS hand) (bb cell)=true at t1;change bw (tS hand) (bb cell)=aT hand (bb cell) at t2;change (aT hand (bb cell)).cps.size≤100 at t3;change (aT hand (bb cell)).cps.any aF=_ at t4;split
  ·rename_i hb;exact .ctrl t1 (by rw[t2];omega) (by rw[t2,t4];exact hb)
  ·rename_i hb;have:=Wr.ok t1 (by rw[t2];omega) (by rw[t2,t4];exact Bool.eq_false_iff.mpr hb);rw[t2] at this;exact this
noncomputable def z9(h:Nat):Nat:=[68,75,82,89,96].getD h 0
theorem vA(h5:hand < 5):(z9 hand,tS hand)∈dl:=by
 exact n5 (.head _) (.tail _ (.head _)) (.tail _ (.tail _ (.head _))) (.tail _ (.tail _ (.tail _ (.head _)))) (.tail _ (.tail _ (.tail _ (.tail _ (.head _))))) hand h5
set_option tactic.hygienic true in
theorem wf(h5:hand < 5):(cW hand cell).2.1.cps.size≤100:=by
 unfold cW;split
 ·have h4:cell / 1000 % 10 % 4 < 4:=Nat.mod_lt _ (by decide);generalize cell / 1000 % 10 % 4=m at h4 ⊢;exact n4 (Nat.zero_le _) (Nat.zero_le _) (Nat.zero_le _) (Nat.zero_le _) m h4
 ·rename_i h9;have ht:=qr hand h5 (cell / 100 % 10) (by omega) (cell / 1000 % 10) (by omega);unfold rO at ht;simp only[Bool.and_eq_true,decide_eq_true_eq,beq_iff_eq] at ht;split
  ·exact Nat.zero_le _
  ·exact ht.1.2
noncomputable def ph(size:Int):List Nat→Int→Int
 | [],c=>c
 | x::r,c=>ph size r (if x=32 then c+1 else c+size - c.fmod size)
variable{x:Nat}
theorem vg{size c:Int}{r:List Nat}:ph size (x::r) c=ph size r (if x=32 then c+1 else c+size - c.fmod size):=rfl
variable{lead:Str}
theorem tC(hsc:Sc env (aj 22) (own env)){size:Int}(hs:0 < size)(k:Fl→ai→Hp→Prop)(h:∀ ρ,k (.ret (.int (ph size lead.cps.toList 0))) ρ H):
  Ex prog w K d ⟨true,top⟩ env [("lead",.str lead),("size",.int size)] (execs (av 22) env) H k (fun J J J=>False):=by
 walk_at "f";refine aw ?_;refine fA rfl rfl rfl ?_;refine jN ?_;apply ad hsc ⋯
 ·walk_at "d"
 refine aw ?_;refine dk (fun J=>rfl) ?_;refine aX ?_;refine cm (by walk_at "g") ?_;refine⟨_,lX rfl,?_⟩;have hl:dY lead=lead.cps.toList.map (fun c=>V.str ⟨#[c]⟩):=rfl;rw[hl];generalize lead.cps.toList=l at h ⊢;generalize (0:Int)=c at h ⊢
 induction l generalizing c with
 | nil=>
  refine aw ?_;refine tX (cm (by walk_at "g") ?_);exact h _
 | cons x r ih=>
  rw[vg] at h;rw[List.map_cons];refine yV ?_;apply ad hsc ⋯
  ·walk_at "d"
  refine aw ?_;refine fA rfl rfl rfl ?_;refine B7 ?_;refine bJ rfl ?_;refine cm (by walk_at "g") ?_;refine fP ?_;refine Bc (fh ?_)
  have e:((⟨#[x]⟩:Str)==Str.ofString " ")=decide (x=32):=by
   rw[show Str.ofString " "=(⟨#[32]⟩:Str) from by kernel_rfl,Bool.eq_iff_iff];walk_at "s"
  rw[e]
  by_cases hx:x=32
  ·rw[decide_eq_true hx];rw[if_pos hx] at h;refine i0 (cm (by walk_at "g") (jN (jZ ?_)));apply ad hsc ⋯
   ·exact ba.cons ⋯ (ba.cons ⋯ (ba.drop ba.last))
   refine an ?_;exact ih (c+1) h
  ·rw[decide_eq_false hx];rw[if_neg hx] at h;refine i0 (i0 (cm (by walk_at "g") (cm (by walk_at "g") (jZ ?_))));refine i0 (cm (by walk_at "g") (cm (by walk_at "g") (ry (Int.ne_of_gt hs) (rA ?_))));apply ad hsc ⋯
   ·exact ba.cons ⋯ (ba.cons ⋯ (ba.drop ba.last))
   refine an ?_;exact ih (c+size - c.fmod size) h
variable{kx:X→Hp→Prop}
noncomputable def cn:List Str:=[""," ","\t","  "," \t"].map Str.ofString
noncomputable def dn(leads:List Str)(place cell:Nat):List Str:=
 leads++[kt (if cell / 10 % 10 > 4 then cn.getD (cell / 10 % 5) ⟨#[]⟩++leads.getD (cell % 10 % (place+1)) ⟨#[]⟩ else leads.getD (cell % 10 % (place+1)) ⟨#[]⟩++cn.getD (cell / 10 % 5) ⟨#[]⟩) none (some 4)]
noncomputable def bd(cells:List Nat):Nat→List Str
 | 0=>[Str.ofString ""]
 | i+1=>dn (bd cells i) i (cells.getD i 0)
noncomputable def ay(cells:List Nat):List Str:=Str.ofString ""::((bd cells cells.length).drop 1).map (· ++Str.ofString " ")
variable{cells:List Nat}
theorem jU:bd cells (i+1)=dn (bd cells i) i (cells.getD i 0):=rfl
theorem be(cells:List Nat):∀ i,(bd cells i).length=i+1
 | 0=>rfl
 | i+1=>by rw[jU,dn];simp[be cells i]
theorem nI(j:Nat):(cn.getD j ⟨#[]⟩).length≤2:=by
 unfold List.getD;cases e:cn[j]? with
 | none=>exact Nat.zero_le _
 | some x=>
  have h:(cn.all fun x=>decide (x.length≤2))=true:=by walk_at "k"
  simpa using (List.all_eq_true.mp h) x (List.mem_of_getElem? e)
theorem lK{l:List Str}(h:∀ x∈l,x.length≤m)(j:Nat):(l.getD j ⟨#[]⟩).length≤m:=by
 unfold List.getD;cases e:l[j]? with
 | none=>exact Nat.zero_le _
 | some x=>exact h x (List.mem_of_getElem? e)
theorem cI(cells:List Nat):∀ i,∀ x∈bd cells i,x.length≤2 * i
 | 0=>fun x h=>by
  rw[List.mem_singleton.mp h];exact Nat.le_of_eq ⋯
 | i+1=>fun x h=>by
  rw[jU,dn] at h;rcases List.mem_append.mp h with h | h
  ·exact Nat.le_trans (cI cells i x h) (by omega)
  ·rw[List.mem_singleton.mp h];refine Nat.le_trans (jY _ _ _) ?_;have h1:=nI (cells.getD i 0 / 10 % 5);have h2:=lK (cI cells i) (cells.getD i 0 % 10 % (i+1));split <;> (rw[strLen_append];omega)
theorem wl(ok:bI K)(hsc:Sc env (aj 23) (own env))(hl:cells.length≤100)(ks:Fl→ai→Hp→Prop)(h:∀ ρ o,ks (.ret (.lst ((ay cells).map V.str))) ρ (H++[o])):
  Ex prog w K d ⟨true,top⟩ env [("cells",.lst (cells.map fun c:Nat=>V.int c))] (execs (av 23) env) H ks (fun J J J=>False):=by
 walk_at "f";walk_at "mv";walk_at "asg";refine aZ ?_
 repeat walk_at "mv"
 apply ad hsc ⋯
 ·walk_at "d"
 walk_at "mv";refine dk (fun J=>rfl) ?_;refine cp ok hsc ⋯ iU rfl rfl ?_
 repeat walk_at "mv"
 refine⟨_,yb rfl,?_⟩;refine bG (fun i ρ H'=>ρ=[(.ofString "cells",.lst (cells.map fun c:Nat=>V.int c)),(.ofString "leads",.ob H.length)]∧H'=H++[.l ((bd cells i).map V.str)]) ?_ ⟨rfl,rfl⟩ ?_
 ·rintro i u ρ H' hu ⟨rfl,rfl⟩;rw[hF,List.getElem?_map] at hu
  have hi:i < cells.length:=by
   rcases Nat.lt_or_ge i cells.length with q | q
   ·exact q
   ·rw[List.getElem?_eq_none q] at hu;exists hu
  rw[List.getElem?_eq_getElem hi] at hu
  obtain rfl:V.tup [.int (i:Int),.int ((cells.getD i 0:Nat):Int)]=u:=by
   rw[←Option.some.inj hu];simp[List.getD,List.getElem?_eq_getElem hi]
  refine de rfl (fun J h=>h) rfl rfl rfl ?_;apply ad hsc ⋯
  ·walk_at "d"
  apply ad hsc ⋯
  ·walk_at "d"
  refine mT ?_;walk_at "mv";walk_at "asg";walk_at "ixn"
  repeat walk_at "mv"
  refine lc (c:=i+1) (by walk_at "s") (by omega) ?_;refine⟨_,_,.str ((bd cells i).getD ((cells.getD i 0) % 10 % (i+1)) ⟨#[]⟩),.o _ List.getElem?_concat_length,rfl,?_,?_,?_⟩
  ·rw[List.getElem?_map,gd ⟨#[]⟩ (by rw[be];exact Nat.mod_lt _ (by omega))];rfl
  ·simp[be];omega
  apply ad hsc ⋯
  ·walk_at "d"
  walk_at "mv";walk_at "asg";walk_at "ixn"
  repeat walk_at "mv"
  refine⟨_,_,.str (cn.getD ((cells.getD i 0) / 10 % 5) ⟨#[]⟩),.l,rfl,?_,Nat.le_of_ble_eq_true rfl,?_⟩
  ·show(cn.map V.str)[(cells.getD i 0) / 10 % 5]? =_;rw[List.getElem?_map,gd (l:=cn) ⟨#[]⟩ (by show _ < 5;omega)];rfl
  apply ad hsc ⋯
  ·walk_at "d"
  walk_at "mv";refine aR rfl ?_;refine bl (id:="list.append") rfl rfl rfl ?_;walk_at "mv";refine⟨bM List.getElem?_concat_length,?_⟩;walk_at "mv";walk_at "slc"
  repeat walk_at "mv"
  have hn:=lK (cI cells i) (cells.getD i 0 % 10 % (i+1));have hp:=nI (cells.getD i 0 / 10 % 5);have hsz:(300:Nat)≤sizeLine:=by decide
  have hnp:((bd cells i).getD (cells.getD i 0 % 10 % (i+1)) ⟨#[]⟩).length+(cn.getD (cells.getD i 0 / 10 % 5) ⟨#[]⟩).length≤sizeLine:=by omega
  by_cases hc:cells.getD i 0 / 10 % 10 > 4
  ·rw[decide_eq_true hc]
   repeat walk_at "mv"
   refine j0 (Nat.add_comm _ _▸hnp) ?_
   repeat walk_at "mv"
   refine⟨_,rfl,?_⟩
   repeat walk_at "mv"
   refine⟨rfl,js ?_ ?_⟩
   ·refine Nat.le_trans (jY _ _ _) ?_;rw[strLen_append];omega
   repeat walk_at "mv"
   refine bF List.getElem?_concat_length (by simp[be];omega) ?_;refine an ⟨_,?_,rfl,?_⟩
   ·intro p hp;rcases List.mem_cons.mp hp with rfl | hp
    ·exact List.mem_cons_self
    ·rw[List.mem_singleton.mp hp];exact List.mem_cons_of_mem _ List.mem_cons_self
   ·rw[show bd cells (i+1)=dn (bd cells i) i (cells.getD i 0) from rfl];unfold dn;rw[if_pos hc];walk_at "s"
  ·rw[decide_eq_false hc]
   repeat walk_at "mv"
   refine j0 hnp ?_
   repeat walk_at "mv"
   refine⟨_,rfl,?_⟩
   repeat walk_at "mv"
   refine⟨rfl,js ?_ ?_⟩
   ·refine Nat.le_trans (jY _ _ _) ?_;rw[strLen_append];omega
   repeat walk_at "mv"
   refine bF List.getElem?_concat_length (by simp[be];omega) ?_;refine an ⟨_,?_,rfl,?_⟩
   ·intro p hp;rcases List.mem_cons.mp hp with rfl | hp
    ·exact List.mem_cons_self
    ·rw[List.mem_singleton.mp hp];exact List.mem_cons_of_mem _ List.mem_cons_self
   ·rw[show bd cells (i+1)=dn (bd cells i) i (cells.getD i 0) from rfl];unfold dn;rw[if_neg hc];walk_at "s"
 ·rintro ρ' H' ⟨rfl,rfl⟩;have el:(gH 0 (cells.map fun c:Nat=>V.int c)).length=cells.length:=by rw[dg,List.length_map]
  rw[el]
  repeat walk_at "mv"
  refine au hsc (fun g' hg'=>by simp at hg';subst hg';exact⟨rfl,fun J J=>rfl⟩) ⋯ (ag.skip (ag.skip ag.nil)) ?_;refine aX ?_;walk_at "slc"
  repeat walk_at "mv"
  refine⟨_,rfl,?_⟩
  repeat walk_at "mv"
  refine⟨nA List.getElem?_concat_length,qe List.getElem?_concat_length (by simp[be];omega) (by walk_at "s") ?_⟩;refine⟨_,aS rfl,fun cenv Xw hc=>?_⟩;rw[yG _ (by simp[be])];refine pN hc (fun u=>match u with | .str s=>.str (s++Str.ofString " ") | u=>u) ⋯ ⋯ (by simp[be];omega) ?_ ?_
  ·intro u hu;rw[←List.map_drop] at hu;refine ab (fun x hx t=>?_) (List.mem_map.mp hu);obtain rfl:=t
   repeat walk_at "mv"
   refine j0 ?_ ⟨rfl,rfl⟩;have h1:=cI cells _ x (List.mem_of_mem_drop hx);have h2:(Str.ofString " ").length=1:=by kernel_rfl
   have hsz:(300:Nat)≤sizeLine:=by decide
   omega
  ·intro ρ;refine bx (by simp[be];omega) ?_
   have e:[V.str (Str.ofString "")]++(((bd cells cells.length).map V.str).drop 1).map (fun u=>match u with | .str s=>.str (s++Str.ofString " ") | u=>u)=(ay cells).map V.str:=by
    unfold ay;simp[dg,List.map_drop,Function.comp_def]
   exact e▸h _ _
theorem wm(ok:bI K)(hh:hd.h=true)(hH:pE H.length H=true)(hl:cells.length≤100)(h:k (.lst ((ay cells).map V.str)) H):Pr prog w K (d+1) hd [.lst (cells.map fun c:Nat=>V.int c)] (fun vs=>call (.ref 334) vs) H k kx:=by
 refine fH ?_;obtain⟨hb,top⟩:=hd;exists hh;refine vS (ok.fn (334,23,["cells"]) ∅) rfl fun env hsc=>?_;refine Ex.weaken (wl ok hsc hl _ fun ρ o=>?_);refine gK hH (du.same _ ?_) h;show bU _ _=true;exact aC _ V.str (fun J=>rfl) _
variable{kx:X→Hp→Prop}
theorem aA(h0:g.is_async=0)(h:∀ env x,foldedSetIterable g.iter env x=pure x):∀ g'∈[g],g'.is_async=0∧∀ env x,foldedSetIterable g'.iter env x=pure x:=fun g' h'=>by
 rw[List.mem_singleton.mp h'];exact⟨h0,h⟩
theorem um(l:List Nat):al l=.lst ((l.map fun n:Nat=>(n:Int)).map V.int):=by
 unfold al;rw[List.map_map];rfl
variable{l:List Nat}
theorem yL(hn:hd.h=true)(h:k (ah l.sum) H):Pr prog w K d hd [al l] (fun vs=>call (.builtin "sum") vs) H k kx:=by
 rw[um];refine rB hn ?_;rw[qm];exact h
theorem aN{Xp:List Addr}(hsc:Sc env sc Xp){p:Pos}{t:Str}{kxs:X→ai→Hp→Prop}(hc:sc.names.lookup t=some .cell)(h:Ev prog w K d hd env ρ (eval (.ListComp elt gs scope pos) env) H (fun u H'=>As prog w K d hd env (own env) ρ (assign (.Name t p) env) u H' (fun ρ' H''=>ks .next ρ' H'') kxs) (nc ρ kxs)):
  Ex prog w K d hd env ρ (exec (.Assign [.Name t p] (.ListComp elt gs scope pos) apos) env) H ks kxs:=by
 refine fA ?_ rfl rfl h;have h1:env.kindOf t=some .cell:=hsc.cel t hc;show(pure (env.blockKind== .function&&env.kindOf t==some .local&&p.line==pos.line&& !(scope.names.any fun(n,k)=>n==t&&(k== .local || k== .cell))):Sem Bool)=pure false;rw[h1,show((some NameKind.cell==some NameKind.local)=false) from rfl,Bool.and_false,Bool.false_and,Bool.false_and]
noncomputable def bS(cells:List Nat):List xg:=(.str "x",Str.ofString "x",none)::cells.map (cW (cells.sum % 5))
noncomputable def oH(cells:List Nat):List V:=(bS cells).map iw
noncomputable def bn(cells:List Nat):List Nat:=0::cells.map fun c=>c / 10000 % 10
noncomputable def xT:Str:=Str.ofString "x \t"
noncomputable def co(cells:List Nat)(p:Nat):List Bool:=(List.range p).map fun o=>gc (aQ ((ay cells).getD o ⟨#[]⟩++xT)) (aQ ((ay cells).getD p ⟨#[]⟩++xT))
noncomputable def iy(cells:List Nat):List (List Bool):=(List.range 6).map (co cells)
noncomputable def aK(cells:List Nat):List Nat:=(ae (iy cells) 5).2.1
noncomputable def ao(cells:List Nat):List (List Nat):=(ae (iy cells) 5).2.2
theorem uU(cells:List Nat)(p:Nat)(hp:p≤5):((iy cells).getD p []).length=p:=by
 exact n6 rfl rfl rfl rfl rfl rfl p hp
theorem dE(cells:List Nat):(ay cells).length=cells.length+1:=by
 unfold ay;rw[List.length_cons,List.length_map,List.length_drop,be];omega
variable{l:Str}
theorem k8(hl5:cells.length=5)(h:l∈ay cells):(l++xT).length≤20:=by
 have hx:xT.length=3:=by walk_at "k"
 have ha:∀ a b:Str,(a++b).length=a.length+b.length:=fun a b=>Array.size_append ..;have hs:(Str.ofString " ").length=1:=by walk_at "k"
 have h0:(Str.ofString "").length=0:=by walk_at "k"
 rw[ha,hx];unfold ay at h;rcases List.mem_cons.mp h with rfl | h
 ·omega
 ·refine ab (fun y hy t=>?_) (List.mem_map.mp h);obtain rfl:=t;have:=cI cells _ y (List.mem_of_mem_drop hy);rw[ha,hs];omega
theorem mL:∀ (l:List Nat) (s:mS) (i:Nat),s.b≤i→s.c.length≤i→(jB l s).b≤i+l.length∧(jB l s).c.length≤i+l.length
 | []=>fun s i h1 h2=>⟨h1,h2⟩
 | x::l=>fun s i h1 h2=>by
  rw[o7];rw[List.length_cons,show i+(l.length+1)=(i+1)+l.length from by omega];split
  ·exact mL l _ (i+1) (by show s.b+1≤i+1;omega) (by show s.c.length≤i+1;omega)
  ·split
   ·refine mL l _ (i+1) (Nat.zero_le _) ?_;unfold jC;rw[List.length_set,nW];omega
   ·exact⟨by omega,by omega⟩
theorem tm(x:Str):(aQ x).b≤x.length∧(aQ x).c.length≤x.length:=by
 have:=mL x.cps.toList ⟨0,0,0,[]⟩ 0 (Nat.le_refl _) (Nat.le_refl _);rw[Nat.zero_add] at this;exact this
noncomputable abbrev cj(cells:List Nat):Str×V:=("total",ah cells.sum)
theorem Eo(ok:bI K)(hsc:Sc env (aj 30) (own env))(hl5:cells.length=5){kxs:X→ai→Hp→Prop}(h:Ex prog w K (d+6) ⟨true,top⟩ env [eC scr,("cells",al cells),cj cells] (execs (aH 2) env) [] ks kxs):
  Ex prog w K (d+6) ⟨true,top⟩ env [eC scr,("cells",al cells)] (execs (aH 1) env) [] ks kxs:=by
 rw[aB 1 (by decide)];refine aw ?_;walk_at "l";walk_at "asg";refine cQ ok hsc ⋯ qG rfl rfl ?_
 repeat walk_at "mv"
 refine yL rfl ?_;apply ad hsc ⋯
 ·walk_at "d"
 exact h
noncomputable abbrev iY(cells:List Nat):Str×V:=("write",.gl (z9 (cells.sum % 5)))
theorem Er(ok:bI K)(hsc:Sc env (aj 30) (own env))(hl5:cells.length=5){kxs:X→ai→Hp→Prop}(h:Ex prog w K (d+6) ⟨true,top⟩ env [eC scr,("cells",al cells),cj cells,iY cells] (execs (aH 3) env) [] ks kxs):
  Ex prog w K (d+6) ⟨true,top⟩ env [eC scr,("cells",al cells),cj cells] (execs (aH 2) env) [] ks kxs:=by
 rw[aB 2 (by decide)];refine aw ?_;walk_at "l";walk_at "asg";walk_at "ixn";walk_at "2";refine eE ok hsc (x:="_escape_cdata") (a:=68) ∅ ⋯ ⋯ ?_;walk_at "mv";refine eE ok hsc (x:="_escape_attrib") (a:=75) ∅ ⋯ ⋯ ?_;walk_at "mv";refine eE ok hsc (x:="_escape_attrib_html") (a:=82) ∅ ⋯ ⋯ ?_;walk_at "mv";refine eE ok hsc (x:="_escape_cdata_c14n") (a:=89) ∅ ⋯ ⋯ ?_;walk_at "mv";refine eE ok hsc (x:="_escape_attrib_c14n") (a:=96) ∅ ⋯ ⋯ ?_;walk_at "mv"
 repeat walk_at "mv"
 refine⟨_,cells.sum % 5,.gl (z9 (cells.sum % 5)),.t,rfl,?_,by decide,?_⟩
 ·have h5:cells.sum % 5 < 5:=Nat.mod_lt _ (by decide);generalize cells.sum % 5=m at h5 ⊢;exact n5 rfl rfl rfl rfl rfl m h5
 apply ad hsc ⋯
 ·walk_at "d"
 exact h
noncomputable abbrev d0(cells:List Nat):Str×V:=("lines",.lst (oH cells))
theorem Et(ok:bI K)(hsc:Sc env (aj 30) (own env))(hl5:cells.length=5){kxs:X→ai→Hp→Prop}(h:Ex prog w K (d+6) ⟨true,top⟩ env [eC scr,("cells",al cells),cj cells,iY cells,d0 cells] (execs (aH 4) env) [] ks kxs):
  Ex prog w K (d+6) ⟨true,top⟩ env [eC scr,("cells",al cells),cj cells,iY cells] (execs (aH 3) env) [] ks kxs:=by
 rw[aB 3 (by decide)];refine aw ?_;walk_at "l";walk_at "asg";walk_at "2"
 repeat walk_at "mv"
 refine au hsc (aA rfl fun J J=>rfl) ⋯ (ag.skip (ag.skip (ag.take ⋯ (ag.skip (ag.nil))))) ?_;refine aX ?_;walk_at "mv";refine⟨_,aS rfl,fun cenv Xw hc=>?_⟩;refine bL hc ah (mC (cells.sum % 5)) ⋯ ⋯ (by omega) (fun c hcm=>?_) fun ρ2=>?_
 ·refine eV ok hc (x:="_law_text") (a:=322) ∅ (ok.fn (322,21,["hand","cell"]) ∅).obj ⋯ ⋯ rfl rfl ?_
  repeat walk_at "mv"
  exact yT ok rfl rfl (Nat.mod_lt _ (by decide)) ⟨rfl,rfl⟩
 ·refine bx (by rw[List.length_map];simp only[List.length_singleton];omega) ?_;apply ad hsc ⋯
  ·walk_at "d"
  unfold d0 oH bS at h;rw[List.map_cons,List.map_map] at h;rw[List.map_congr_left (g:=iw∘cW (cells.sum % 5)) fun c J=>rP _ c];exact h
noncomputable abbrev d6(cells:List Nat):Str×V:=("ends",al (bn cells))
theorem Eu(ok:bI K)(hsc:Sc env (aj 30) (own env))(hl5:cells.length=5){kxs:X→ai→Hp→Prop}(h:Ex prog w K (d+6) ⟨true,top⟩ env [eC scr,("cells",al cells),cj cells,iY cells,d0 cells,d6 cells] (execs (aH 5) env) [] ks kxs):
  Ex prog w K (d+6) ⟨true,top⟩ env [eC scr,("cells",al cells),cj cells,iY cells,d0 cells] (execs (aH 4) env) [] ks kxs:=by
 rw[aB 4 (by decide)];refine aw ?_;walk_at "l";walk_at "asg";walk_at "2"
 repeat walk_at "mv"
 refine au hsc (aA rfl fun J J=>rfl) ⋯ (ag.skip (ag.skip (ag.skip (ag.skip (ag.skip (ag.nil)))))) ?_;refine aX ?_;walk_at "mv";refine⟨_,aS rfl,fun cenv Xw hc=>?_⟩;refine bL hc ah (fun c=>ah (c / 10000 % 10)) ⋯ ⋯ (by omega) (fun c hcm=>?_) fun ρ2=>?_
 ·walk_at "mv";walk_at "mv"
  repeat walk_at "mv"
  refine sZ (c:=10000) rfl (by decide) ∅ ?_
  repeat walk_at "mv"
  exact⟨rfl,rfl⟩
 ·refine bx (by rw[List.length_map];simp only[List.length_singleton];omega) ?_;apply ad hsc ⋯
  ·walk_at "d"
  refine ?_;unfold d6 bn al at h;rw[List.map_cons,List.map_map] at h;exact h
noncomputable abbrev jF(cells:List Nat):Str×V:=("leads",.lst ((ay cells).map V.str))
theorem Ew(ok:bI K)(hsc:Sc env (aj 30) (own env))(hl5:cells.length=5){kxs:X→ai→Hp→Prop}(h:Ex prog w K (d+6) ⟨true,top⟩ env [eC scr,("cells",al cells),cj cells,iY cells,d0 cells,d6 cells,jF cells] (execs (aH 6) env) [] ks kxs):
  Ex prog w K (d+6) ⟨true,top⟩ env [eC scr,("cells",al cells),cj cells,iY cells,d0 cells,d6 cells] (execs (aH 5) env) [] ks kxs:=by
 rw[aB 5 (by decide)];refine aw ?_;walk_at "l";walk_at "asg";refine eV ok hsc (x:="_law_leads") (a:=334) ∅ (ok.fn (334,23,["cells"]) ∅).obj ⋯ ⋯ rfl rfl ?_
 repeat walk_at "mv"
 refine wm ok rfl rfl (by omega) ?_;apply ad hsc ⋯
 ·walk_at "d"
 exact h
noncomputable abbrev jE(cells:List Nat):Str×V:=("spaces",.lst ((ay cells).map fun l=>y4 (l++xT)))
theorem Ey(ok:bI K)(hsc:Sc env (aj 30) (own env))(hl5:cells.length=5){kxs:X→ai→Hp→Prop}(h:Ex prog w K (d+6) ⟨true,top⟩ env [eC scr,("cells",al cells),cj cells,iY cells,d0 cells,d6 cells,jF cells,jE cells] (execs (aH 7) env) [] ks kxs):
  Ex prog w K (d+6) ⟨true,top⟩ env [eC scr,("cells",al cells),cj cells,iY cells,d0 cells,d6 cells,jF cells] (execs (aH 6) env) [] ks kxs:=by
 rw[aB 6 (by decide)];refine aw ?_;walk_at "l";refine aN hsc ⋯ ?_;refine au hsc (aA rfl fun J J=>rfl) ⋯ (ag.skip (ag.skip (ag.skip (ag.skip (ag.skip (ag.skip (ag.skip (ag.nil)))))))) ?_;refine aX ?_;walk_at "mv";refine⟨_,aS rfl,fun cenv Xw hc=>?_⟩;refine bL hc V.str (fun l=>y4 (l++xT)) ⋯ ⋯ (by rw[dE];omega) (fun l hlm=>?_) fun ρ2=>?_
 ·refine pr rfl rfl ok.keep.1 ?_;refine eE ok hc (x:="Whitespace") (a:=158) ∅ ⋯ ⋯ ?_;refine⟨rfl,?_⟩
  repeat walk_at "mv"
  refine j0 ?_ ?_
  ·have hq:=k8 hl5 hlm;have ha:(l++xT).length=l.length+(Str.ofString "x \t").length:=Array.size_append ..;have h20:20≤sizeLine:=by decide
   omega
  repeat walk_at "mv"
  exact DM ok rfl rfl (Nat.le_trans (k8 hl5 hlm) (by decide)) ⟨rfl,rfl⟩
 ·apply ad hsc ⋯
  ·walk_at "d"
  exact h
noncomputable abbrev iZ(cells:List Nat):Str×V:=("told",.lst ((iy cells).map jv))
theorem Ez(ok:bI K)(hsc:Sc env (aj 30) (own env))(hl5:cells.length=5){kxs:X→ai→Hp→Prop}(h:Ex prog w K (d+6) ⟨true,top⟩ env [eC scr,("cells",al cells),cj cells,iY cells,d0 cells,d6 cells,jF cells,jE cells,iZ cells] (execs (aH 8) env) [] ks kxs):
  Ex prog w K (d+6) ⟨true,top⟩ env [eC scr,("cells",al cells),cj cells,iY cells,d0 cells,d6 cells,jF cells,jE cells] (execs (aH 7) env) [] ks kxs:=by
 rw[aB 7 (by decide)];refine aw ?_;walk_at "l";refine aN hsc ⋯ ?_;refine au hsc (aA rfl fun J J=>rfl) ⋯ (ag.skip (ag.skip (ag.skip (ag.skip (ag.skip (ag.skip (ag.skip (ag.take ⋯ (ag.nil))))))))) ?_;refine cp ok hsc ⋯ aJ rfl rfl ?_
 repeat walk_at "mv"
 refine⟨_,bf rfl ⟨by decide,by decide⟩,fun cenv Xw hc=>?_⟩;have hll:(ay cells).length=6:=by rw[dE,hl5]
 have hsp:∀ i,i < 6→((ay cells).map fun l=>y4 (l++xT))[i]? =some (y4 ((ay cells).getD i ⟨#[]⟩++xT)):=fun i hi=>by
  rw[List.getElem?_map,gd ⟨#[]⟩ (by rw[hll];exact hi)];rfl
 have hb:∀ i,i < 6→(aQ ((ay cells).getD i ⟨#[]⟩++xT)).c.length≤100∧(aQ ((ay cells).getD i ⟨#[]⟩++xT)).b≤100:=fun i hi=>by
  have hm:(ay cells).getD i ⟨#[]⟩∈ay cells:=by
   have:=gd (l:=ay cells) (⟨#[]⟩:Str) (by rw[hll];exact hi);exact List.mem_of_getElem? this
  have:=k8 hl5 hm;have:=tm ((ay cells).getD i ⟨#[]⟩++xT);omega
 obtain⟨y3,hB3⟩:=yu;have hF3:=(ok.wsF (148,6,["self","other"]) ∅).at
 refine bL hc ah (fun p=>jv (co cells p)) ⋯ ⋯ (by decide) (fun p hp=>?_) fun ρ2=>?_
 ·have hp6:p < 6:=List.mem_range.mp hp;refine au hc (aA rfl fun J J=>rfl) ⋯ (ag.take ⋯ (ag.take ⋯ ag.nil)) ?_;refine cp ok hc ⋯ aJ rfl rfl ?_
  repeat walk_at "mv"
  refine⟨_,bf rfl ⟨by omega,by omega⟩,fun cenv2 Xw2 hc2=>?_⟩;rw[Int.toNat_natCast];refine bL hc2 ah (fun o=>V.bool (gc (aQ ((ay cells).getD o ⟨#[]⟩++xT)) (aQ ((ay cells).getD p ⟨#[]⟩++xT)))) ⋯ ⋯ (by rw[List.length_range];omega) (fun o ho=>?_) fun ρ3=>?_
  ·have ho6:o < p:=List.mem_range.mp ho;refine bZ rfl rfl rfl hF3.2 ?_;walk_at "ixn";walk_at "2";refine⟨_,o,_,.l,rfl,hsp o (by omega),by rw[List.length_map,hll];decide,?_⟩;refine⟨nX ok ∅ hF3.1 hB3 ∅,?_⟩;walk_at "mv";walk_at "ixn";walk_at "2";refine⟨_,p,_,.l,rfl,hsp p hp6,by rw[List.length_map,hll];decide,?_⟩;walk_at "mv";exact uW ok rfl (hb o (by omega)) (hb p hp6) ⟨rfl,rfl⟩
  ·refine⟨?_,rfl⟩;unfold co jv;rw[List.map_map];rfl
 ·apply ad hsc ⋯
  ·walk_at "d"
  unfold iZ iy at h;rw[List.map_map] at h;exact h
noncomputable abbrev gn(cells:List Nat):Str×V:=("ups",al (aK cells))
noncomputable abbrev gm(cells:List Nat):Str×V:=("chains",.lst ((ao cells).map al))
theorem EA(ok:bI K)(hsc:Sc env (aj 30) (own env))(hl5:cells.length=5)(ht0:∀ p,1≤p→p≤5→((iy cells).getD p []).getD 0 false=true){kxs:X→ai→Hp→Prop}(h:Ex prog w K (d+6) ⟨true,top⟩ env [eC scr,("cells",al cells),cj cells,iY cells,d0 cells,d6 cells,jF cells,jE cells,iZ cells,gn cells,gm cells] (execs (aH 9) env) [] ks kxs):
  Ex prog w K (d+6) ⟨true,top⟩ env [eC scr,("cells",al cells),cj cells,iY cells,d0 cells,d6 cells,jF cells,jE cells,iZ cells] (execs (aH 8) env) [] ks kxs:=by
 rw[aB 8 (by decide)];refine aw ?_;walk_at "l";walk_at "asg";refine eV ok hsc (x:="_law_hung") (a:=339) ∅ (ok.fn (339,24,["told"]) ∅).obj ⋯ ⋯ rfl rfl ?_
 repeat walk_at "mv"
 refine x6 ok rfl rfl rfl (fun p hp=>uU cells p hp) ht0 ?_;refine de rfl (fun J h=>h) rfl rfl rfl ?_;apply ad hsc ⋯
 ·walk_at "d"
 apply ad hsc ⋯
 ·walk_at "d"
 refine mT ?_;exact h
variable{kx:X→Hp→Prop}
noncomputable def ga:Nat→List (List Nat)
 | 0=>[[]]
 | n+1=>[]::(ga n).flatMap fun l=>[32::l,9::l]
noncomputable def DA(l:List Nat):Str:=⟨l.toArray⟩
theorem iH(x:Str):DA x.cps.toList=x:=by unfold DA;rw[Array.toArray_toList]
noncomputable def gP:List (List Nat):=[]::(ga 4).map (· ++[32])
noncomputable def zD(l:List Nat)(p:Str):Bool:=(ga 4).contains (kt (DA l++p) none (some 4)).cps.toList&&(ga 4).contains (kt (p++DA l) none (some 4)).cps.toList
theorem wF:∀ l∈ga 4,∀ p∈⟨#[]⟩::cn,zD l p=true:=by walk_at "k"
theorem dP(cells:List Nat):∀ i,∀ x∈bd cells i,x.cps.toList∈ga 4
 | 0=>fun x h=>by
  rw[List.mem_singleton.mp h];walk_at "k"
 | i+1=>fun x h=>by
  rw[jU,dn] at h;rcases List.mem_append.mp h with h | h
  ·exact dP cells i x h
  ·rw[List.mem_singleton.mp h]
   have hn:((bd cells i).getD (cells.getD i 0 % 10 % (i+1)) ⟨#[]⟩).cps.toList∈ga 4:=by
    rw[List.getD_eq_getElem?_getD];cases e:(bd cells i)[cells.getD i 0 % 10 % (i+1)]? with
    | none=>walk_at "k"
    | some y=>exact dP cells i y (List.mem_of_getElem? e)
   have hp:cn.getD (cells.getD i 0 / 10 % 5) ⟨#[]⟩∈(⟨#[]⟩::cn:List Str):=by
    rw[List.getD_eq_getElem?_getD];cases e:cn[cells.getD i 0 / 10 % 5]? with
    | none=>exact List.mem_cons_self
    | some y=>exact List.mem_cons_of_mem _ (List.mem_of_getElem? e)
   have:=wF _ hn _ hp;unfold zD at this;rw[iH,Bool.and_eq_true,List.contains_iff_mem,List.contains_iff_mem] at this;split
   ·exact this.2
   ·exact this.1
theorem pK(h:l∈ay cells):l.cps.toList∈gP:=by
 unfold ay at h;unfold gP;rcases List.mem_cons.mp h with rfl | h
 ·exact List.mem_cons.mpr (.inl ∅)
 ·refine ab (fun y hy t=>?_) (List.mem_map.mp h);obtain rfl:=t;refine List.mem_cons_of_mem _ (List.mem_map.mpr ⟨y.cps.toList,dP cells _ y (List.mem_of_mem_drop hy),?_⟩);show y.cps.toList++[32]=(y.cps++(Str.ofString " ").cps).toList;rw[Array.toList_append,show(Str.ofString " ").cps.toList=[32] from by walk_at "k"]
noncomputable def ip:List Nat→Nat × Nat→Nat × Nat
 | [],s=>s
 | x::l,s=>if x=32 then ip l (s.1+1,s.2) else ip l (0,s.2+1)
variable{l:List Nat}
theorem wU{s:Nat × Nat}:ip (x::l) s=if x=32 then ip l (s.1+1,s.2) else ip l (0,s.2+1):=rfl
theorem lg:∀ (l:List Nat) (s:Nat × Nat),(ip l s).1≤s.1+l.length
 | []=>fun s=>Nat.le_refl _
 | x::l=>fun s=>by
  rw[wU];rw[List.length_cons];split
  ·have:=lg l (s.1+1,s.2);simp only at this;omega
  ·have:=lg l (0,s.2+1);simp only at this;omega
theorem oh{ts:Nat}:∀ (l:List Nat) (s:Nat × Nat),s.1+l.length < ts→ph (ts:Int) l ((s.2 * ts+s.1:Nat):Int)=(((ip l s).2 * ts+(ip l s).1:Nat):Int)
 | []=>fun s J=>rfl
 | x::l=>fun s h=>by
  rw[List.length_cons] at h;rw[vg,wU];split
  ·have:=oh (ts:=ts) l (s.1+1,s.2) (by simp only;omega);rw[←this];congr 1
  ·have:=oh (ts:=ts) l (0,s.2+1) (by simp only;omega);rw[←this];congr 1
   have e:((s.2 * ts+s.1:Nat):Int).fmod (ts:Int)=(s.1:Int):=by
    rw[Int.fmod_eq_emod_of_nonneg _ (by omega),←Int.natCast_emod,Nat.mul_comm,Nat.mul_add_mod,Nat.mod_eq_of_lt (by omega)]
   rw[e,Nat.add_mul];simp only[Nat.one_mul,Nat.add_zero];omega
noncomputable def mQ(l:List Nat):mS:=aQ (DA l++xT)
theorem lm:∀ l∈gP,(mQ l).b=(ip l (0,0)).1∧(mQ l).nt=(ip l (0,0)).2∧(mQ l).c.length≤6∧l.length≤5:=by walk_at "k"
theorem uh:∀ l∈gP,∀ ts∈[1,2,3,4,5,6],((aE (mQ l) ts:Nat):Int)=ph (ts:Int) l 0:=by walk_at "k"
theorem oG(h:l∈gP)(h6:6≤ts):aE (mQ l) ts=(ip l (0,0)).2 * ts+(ip l (0,0)).1:=by
 refine fY (fun e1 e2 e3 e4=>?_) (lm l h);unfold aE;rw[e1,e2,Nat.sub_eq_zero_of_le (by omega)];rw[yZ];rw[Nat.zero_add,Nat.mul_comm,Nat.add_comm]
theorem Bw:∀ ts,ts < 7→1≤ts→ts∈[1,2,3,4,5,6]:=by decide
theorem yk(h:l∈gP)(h1:1≤ts):((aE (mQ l) ts:Nat):Int)=ph (ts:Int) l 0:=by
 by_cases h6:ts≤6
 ·exact uh l h ts (Bw ts (Nat.lt_succ_of_le h6) h1)
 ·rw[oG h (by omega)];refine fY (fun e1 e2 e3 e4=>?_) (lm l h);have:=oh (ts:=ts) l (0,0) (by simp only;omega);rw[←this];walk_at "s"
noncomputable def wn(a b:List Nat):Bool:=gc (mQ a) (mQ b)==[1,2,3,4,5,6].all fun ts=>decide (aE (mQ a) ts < aE (mQ b) ts)
theorem pM:∀ a∈gP,∀ b∈gP,wn a b=true:=by walk_at "k"
theorem sM{a b:List Nat}(ha:a∈gP)(hb:b∈gP):gc (mQ a) (mQ b)=true↔∀ ts,1≤ts→aE (mQ a) ts < aE (mQ b) ts:=by
 have h:=pM a ha b hb;unfold wn at h;rw[beq_iff_eq] at h;rw[h,List.all_eq_true];constructor
 ·intro q ts h1
  by_cases h6:ts≤6
  ·have:ts∈[1,2,3,4,5,6]:=by
    rcases Nat.lt_or_eq_of_le h6 with h6 | rfl
    ·refine ED ?_ ?_ ?_ ?_ ?_ ts h1 (Nat.le_of_lt_succ h6) <;> decide
    ·decide
   exact of_decide_eq_true (q ts this)
  ·have q6:=of_decide_eq_true (q 6 (by walk_at "s"));rw[oG ha (by omega),oG hb (by omega)] at q6 ⊢;refine fY (fun J J J la=>?_) (lm a ha);refine fY (fun J J J lb=>?_) (lm b hb);have ra:=lg a (0,0);have rb:=lg b (0,0);simp only at ra rb;generalize (ip a (0,0)).1=xa at *;generalize (ip a (0,0)).2=ta at *;generalize (ip b (0,0)).1=xb at *;generalize (ip b (0,0)).2=tb at *
   by_cases ht:ta=tb
   ·subst ht;omega
   ·have h1:ta+1≤tb:=by omega
    have:=Nat.mul_le_mul_right ts h1;rw[Nat.add_mul,Nat.one_mul] at this;omega
 ·intro q ts hts;refine decide_eq_true (q ts ?_);simp at hts;omega
theorem ug:∀ b∈(ga 4).map (· ++[32]),gc (mQ []) (mQ b)=true:=by walk_at "k"
variable{kx:X→Hp→Prop}
theorem EV(h2:env.kindOf x2=some .cell):
  swappedStores [.Tuple [.Name x1 p1,.Name x2 p2] kk tpos] (.Tuple [v1,v2] kk' vpos) env=pure none:=
 yQ (Ej (if_neg fun h=>by rw[h2] at h;exact nomatch h))
theorem sk(hn:hd.h=true){kxs:X→ai→Hp→Prop}(hsc:Sc env sc (own env))(h2:sc.names.lookup x2=some .cell)(h:Ev prog w K d hd env ρ (eval (.Tuple [v1,v2] kk' vpos) env) H (fun u H'=>∃ u1 u2,u=.tup [u1,u2]∧Al prog w K d hd env (own env) [.Name x1 p1,.Name x2 p2] [u1,u2] ρ H' (fun ρ' H''=>ks .next ρ' H'')) (nc ρ kxs)):
  Ex prog w K d hd env ρ (exec (.Assign [.Tuple [.Name x1 p1,.Name x2 p2] kk tpos] (.Tuple [v1,v2] kk' vpos) pos) env) H ks kxs:=by
 refine fA rfl (EV (hsc.cel _ h2)) rfl (h.mono fun u H' hk=>?_)
 revert hk;refine aV fun u1 u2 q hk=>?_;obtain rfl:=q
 exact de hn (fun J h=>h) rfl rfl rfl hk
theorem ye(ok:bI K)(hh:hd.h=true){T:List (Str × Str)}(hm:(a,T)∈dl){bc:List (Str × Str)}(h0:bc.length≤10)(L:cE (H++[Ob.l []]) rh qh rg qg H.length bc [] [])(hu:ups.length=6∧∀ i,i < 6→ups.getD i 0 < 6)(he:ends.length=6)(hb:bare.length=6)(hw:∀ i,1≤i→i≤5→Wr T (bare.getD i .none) (out.getD i none) (due.getD i bX))(h:∀ H',cE H' rh qh rg qg H.length (bC bc out due 5) (cR ups ends 5) (bW out 5)→k (.ob H.length) H'):
  Pr prog w K (d+5) hd [.ins 306 rh,.ins 306 rg,al ups,.gl a,.lst bare,al ends] (fun vs=>call (.ref 346) vs) H k kx:=by
 obtain⟨hb',top⟩:=hd;exists hh;refine bp (ρ0:=[("head",.ins 306 rh),("hang",.ins 306 rg),("ups",al ups),("write",.gl a),("bare",.lst bare),("ends",al ends)]) (ok.fn (346,25,["head","hang","ups","write","bare","ends"]) ∅) rfl rfl fun env hsc=>?_;exact Ex.weaken (yd ok rfl hsc hm h0 L hu he hb hw (z3 k) fun ρ H' L'=>h H' L') (fun J J J h=>h) (fun J J J h=>h.elim)
variable{x:Str}
theorem bB{r:ai}{H':Hp}(hm:(x,u)∈ρ')(hf:du H' 0 u u')(h:∀ x u',(x,u')∈r→∃ u,(x,u)∈ρ'∧du H' 0 u u'):∀ y v',(y,v')∈(x,u')::r→∃ v,(y,v)∈ρ'∧du H' 0 v v':=fun y v' hq=>by
 rcases List.mem_cons.mp hq with e | hq
 ·exists e;exact⟨u,hm,hf⟩
 ·exact h y v' hq
theorem oy{H':Hp}:∀ y v',(y,v')∈([]:ai)→∃ v,(y,v)∈ρ'∧du H' 0 v v':=fun J J h=>nomatch h
theorem aP(n:Nat){l:List V}(h:bU n l=true):(V.lst l).oldB n=true:=h
theorem eJ(n:Nat)(l:List Nat):(al l).oldB n=true:=aP n (aC n ah (fun J=>rfl) l)
theorem wC(n:Nat)(x:Str):(y4 x).oldB n=true:=
 gr rfl (gr (gr (aC _ ah (fun J=>rfl) _) rfl) rfl)
theorem lf(n:Nat)(out:List (Option (String × Str))):∀ m,bU n (bW out m)=true
 | 0=>rfl
 | m+1=>by
  have ap:∀ a b:List V,bU n a=true→bU n b=true→bU n (a++b)=true:=fun a b h1 h2=>by
   induction a with
   | nil=>exact h2
   | cons x a ih=>
    exact gr (kc h1).1 (ih (kc h1).2)
  rw[oZ];refine ap _ _ (lf n out m) ?_;split <;> rfl
theorem uj(n hand cell:Nat):(iw (cW hand cell)).oldB n=true:=by
 unfold cW;split
 ·have h4:cell / 1000 % 10 % 4 < 4:=Nat.mod_lt _ (by decide);generalize cell / 1000 % 10 % 4=m at h4 ⊢;exact n4 rfl rfl rfl rfl m h4
 ·split <;> rfl
theorem nB(n:Nat)(cells:List Nat):(V.lst (oH cells)).oldB n=true:=by
 refine aP n ?_;unfold oH bS;rw[List.map_cons,List.map_map];exact gr rfl (aC n (iw∘cW (cells.sum % 5)) (fun c=>uj n _ c) _)
noncomputable def cC(cells:List Nat):List (Option (String × Str)):=(bS cells).map (·.2.2)
noncomputable def aq(cells:List Nat):List Str:=(bS cells).map (·.2.1)
noncomputable def bc:List (Str × Str):=[(bH 0,Str.ofString "x"),(jD 0,Str.ofString "x")]
noncomputable def gM(cells:List Nat):List (Str × Str):=bC bc (cC cells) (aq cells) 5
noncomputable def lN(cells:List Nat):List (Str × Str):=cR (aK cells) (bn cells) 5
noncomputable abbrev iO(cells:List Nat):Str×V:=("refused",.lst (bW (cC cells) 5))
noncomputable abbrev cH(cells:List Nat):Str×V:=("head",hsF (gM cells))
noncomputable abbrev lD(cells:List Nat):Str×V:=("hang",hsF (lN cells))
noncomputable abbrev nN(cells:List Nat):ai:=[cj cells,d0 cells,d6 cells,jF cells,jE cells,iZ cells,gn cells,gm cells,
 cH cells,lD cells,iO cells]
theorem EB(ok:bI K)(hsc:Sc env (aj 30) (own env))(hl5:cells.length=5)(hu:(aK cells).length=6∧∀ i,i < 6→(aK cells).getD i 0 < 6){kxs:X→ai→Hp→Prop}(h:Ex prog w K (d+6) ⟨true,top⟩ env (nN cells) (execs (aH 11) env) [] ks kxs):
  Ex prog w K (d+6) ⟨true,top⟩ env [eC scr,("cells",al cells),cj cells,iY cells,d0 cells,d6 cells,jF cells,jE cells,iZ cells,gn cells,gm cells]
   (execs (aH 9) env) [] ks kxs:=by
 rw[aB 9 (by decide),aB 10 (by decide)];refine jP (l1:=[rc 9,rc 10]) (l2:=aH 11) ?_;refine aw ?_;walk_at "l";refine sk rfl hsc ⋯ ?_;walk_at "2";refine pr rfl rfl ok.keep.2 ?_;refine eE ok hsc (x:="Headers") (a:=306) ∅ ⋯ ⋯ ?_;refine⟨rfl,?_⟩;walk_at "mv";refine aZ ?_
 repeat walk_at "mv"
 refine xX ok rfl (ps:=bc) rfl ∅ ?_;walk_at "mv";refine tT ok.keep.2 ?_;refine eE ok hsc (x:="Headers") (a:=306) ∅ ⋯ ⋯ ?_;refine⟨rfl,?_⟩;refine xW ok rfl ?_;walk_at "mv";refine⟨by decide,_,_,rfl,?_⟩;apply ad hsc ⋯
 ·walk_at "d"
 apply ad hsc ⋯
 ·walk_at "d"
 refine mT ?_;walk_at "mv";walk_at "asg";refine eV ok hsc (x:="_law_laid") (a:=346) ∅ (ok.fn (346,25,["head","hang","ups","write","bare","ends"]) ∅).obj ⋯ ⋯ rfl rfl ?_;walk_at "8";walk_at "mv";refine au hsc (aA rfl fun J J=>rfl) ⋯ (ag.skip (ag.skip (ag.skip (ag.skip (ag.skip (ag.skip (ag.skip (ag.skip (ag.skip (ag.skip (ag.skip (ag.skip (ag.skip ag.nil))))))))))))) ?_;refine aX ?_;walk_at "mv";refine⟨_,aS rfl,fun cenv Xw hc=>?_⟩;have hld:(bS cells).length=6:=by unfold bS;rw[List.length_cons,List.length_map,hl5]
 refine bL hc iw (fun l=>l.1) ⋯ ⋯ (by rw[hld];decide) (fun l hlm=>?_) fun ρ2=>?_
 ·walk_at "ixn";walk_at "2";exact⟨_,0,l.1,.t,rfl,rfl,Nat.le_of_ble_eq_true rfl,rfl,rfl⟩
 walk_at "3";have h5:cells.sum % 5 < 5:=Nat.mod_lt _ (by decide);refine ye ok rfl (rh:=1) (qh:=0) (rg:=2) (qg:=3) (bc:=bc) (out:=cC cells) (due:=aq cells) (vA h5) (by decide) ⟨rfl,rfl,rfl,rfl,rfl,by decide,by decide,by decide⟩ hu ?_ ?_ ?_ fun H' L=>?_
 ·unfold bn;rw[List.length_cons,List.length_map,hl5]
 ·rw[List.length_map,hld]
 ·intro i h1 h5';obtain⟨j,rfl⟩:∃ j,i=j+1:=⟨i - 1,by omega⟩;have hj:j < cells.length:=by omega
  have e:(bS cells)[j+1]? =some (cW (cells.sum % 5) cells[j]):=by
   unfold bS;rw[List.getElem?_cons_succ,List.getElem?_map,List.getElem?_eq_getElem hj];rfl
  have:=yY (cell:=cells[j]) h5;unfold cC aq;rw[List.getD_eq_getElem?_getD,List.getD_eq_getElem?_getD,List.getD_eq_getElem?_getD,List.getElem?_map,List.getElem?_map,List.getElem?_map,e];exact this
 apply ad hsc ⋯
 ·walk_at "d"
 walk_at "mv";refine⟨nN cells,?_,h⟩;refine bB (by walk_at "g") .int ?_;refine bB (by walk_at "g") (du.same _ (nB 0 _)) ?_;refine bB (by walk_at "g") (du.same _ (eJ 0 _)) ?_;refine bB (by walk_at "g") (du.same _ (aP 0 (aC 0 V.str (fun J=>rfl) _))) ?_;refine bB (by walk_at "g") (du.same _ (aP 0 (aC 0 _ (fun l=>wC 0 _) _))) ?_;refine bB (by walk_at "g") (du.same _ (aP 0 (aC 0 jv (fun l=>aP 0 (aC 0 V.bool (fun J=>rfl) _)) _))) ?_;refine bB (by walk_at "g") (du.same _ (eJ 0 _)) ?_;refine bB (by walk_at "g") (du.same _ (aP 0 (aC 0 al (fun l=>eJ 0 _) _))) ?_;refine bB (u:=.ins 306 1) (by walk_at "g") (.oi (Nat.zero_le _) L.h1 (.cons (.ol (Nat.zero_le _) L.h2 (aM.same _ (ig 0 _))) .nil)) ?_;refine bB (u:=.ins 306 2) (by walk_at "g") (.oi (Nat.zero_le _) L.g1 (.cons (.ol (Nat.zero_le _) L.g2 (aM.same _ (ig 0 _))) .nil)) ?_;refine bB (u:=.ob 4) (by walk_at "g") (.ol (Nat.zero_le _) L.r1 (aM.same _ (lf 0 _ _))) ?_;exact oy
variable{kx:X→Hp→Prop}
theorem nT(hpre:dK ups 6 0=[1,2,3,4,5])(hup:∀ i,1≤i→i≤5→ups.getD i 0 < i)(G:eS pm ups kept ends H rt ([0]++dK ups 6 0) rf):∀ (f j:Nat),6≤j+f→j≤5→du H 0 (.ob (rf j).1) (bk pm ups kept ends f j)
 | 0=>fun j h6 h5=>by omega
 | f+1=>fun j h6 h5=>by
  have hm:∀ i,i≤5→i∈[0]++dK ups 6 0:=fun i hi=>by
   rw[hpre];refine n6 ?_ ?_ ?_ ?_ ?_ ?_ i hi <;> decide
  have hfil:(([0]++dK ups 6 0).filter fun i=>decide (1≤i)&&decide (ups.getD i 0=j))=aD ups j:=by
   rw[hpre];rfl
  have hk:aM H 0 (bV ups ([0]++dK ups 6 0) rf j) ((aD ups j).map (bk pm ups kept ends f)):=by
   unfold bV;rw[hfil]
   have main:∀ l:List Nat,(∀ i∈l,i∈aD ups j)→aM H 0 (l.map fun i=>.ob (rf i).1) (l.map (bk pm ups kept ends f)):=fun l=>by
    induction l with
    | nil=>exact fun J=>.nil
    | cons a l ih=>
     intro hl;refine gT (fun q1 q5 qp=>?_) (fD (hl a List.mem_cons_self));have:=hup a q1 q5;exact .cons (nT hpre hup G f a (by omega) q5) (ih fun i hi=>hl i (List.mem_cons_of_mem _ hi))
   exact main _ fun J h=>h
  have hkl:du H 0 (.ob (rf j).2.2) (.lst ((aD ups j).map (bk pm ups kept ends f))):=.ol (Nat.zero_le _) (G.nk j (hm j h5)) hk
  have htl:du H 0 (li (ends.getD j 0)) (li (ends.getD j 0)):=by
   have h3:ends.getD j 0 % 3 < 3:=Nat.mod_lt _ (by decide);unfold li;generalize ends.getD j 0 % 3=m at h3 ⊢;exact n3 .none .str .str m h3
  refine .of (Nat.zero_le _) (Nat.zero_le _) (G.nf j (hm j h5)) (G.nn j (hm j h5)) ?_;unfold kq;refine .cons ?_ (.cons .gl (.cons (.bm hkl) (.cons htl (.cons .str .nil))));unfold lA;exact .clo (.cons hkl (.cons (.dct (.cons .str (.cons htl .nil))) .nil))
noncomputable def ti(pm:Value)(cells:List Nat):V:=.dct (([0]++[1,2,3,4,5]).map bH) ([0,1,2,3,4,5].map (bk pm (aK cells) (aq cells) (bn cells) 6))
noncomputable def qV(cells:List Nat):V:=.lst ([1,2,3,4,5].map (m0 (aq cells)))
noncomputable abbrev gi(pm:Value)(cells:List Nat):Str×V:=("things",ti pm cells)
noncomputable abbrev gj(cells:List Nat):Str×V:=("given",qV cells)
noncomputable abbrev zF(pm:Value)(cells:List Nat):ai:=nN cells++[gi pm cells,gj cells]
theorem ms(n:Nat)(ps:List (Str × Str)):(hsF ps).oldB n=true:=gr (ig n ps) rfl
theorem uL(cells:List Nat):∀ p∈nN cells,p.2.oldB 0=true:=by
 refine List.forall_mem_cons.mpr ⟨rfl,List.forall_mem_cons.mpr ⟨nB 0 _,List.forall_mem_cons.mpr ⟨eJ 0 _,List.forall_mem_cons.mpr ⟨aP 0 (aC 0 V.str (fun J=>rfl) _),List.forall_mem_cons.mpr ⟨aP 0 (aC 0 _ (fun l=>wC 0 _) _),List.forall_mem_cons.mpr ⟨aP 0 (aC 0 jv (fun l=>aP 0 (aC 0 V.bool (fun J=>rfl) _)) _),List.forall_mem_cons.mpr ⟨eJ 0 _,List.forall_mem_cons.mpr ⟨aP 0 (aC 0 al (fun l=>eJ 0 _) _),List.forall_mem_cons.mpr ⟨ms 0 _,List.forall_mem_cons.mpr ⟨ms 0 _,List.forall_mem_cons.mpr ⟨aP 0 (lf 0 _ _),fun J h=>nomatch h⟩⟩⟩⟩⟩⟩⟩⟩⟩⟩⟩
theorem Cw(ok2:dz K pm)(hsc:Sc env (aj 30) (own env))(hup:∀ i,1≤i→i≤5→(aK cells).getD i 0 < i)(hpre:dK (aK cells) 6 0=[1,2,3,4,5])(I:gD (lN cells) (gM cells) (aK cells) (aq cells) (bn cells)){kxs:X→ai→Hp→Prop}(h:Ex prog w K (d+9) ⟨true,top⟩ env (zF pm cells) (execs (aH 13) env) [] ks kxs):
  Ex prog w K (d+9) ⟨true,top⟩ env (nN cells) (execs (aH 11) env) [] ks kxs:=by
 have ok:=ok2.ok;rw[aB 11 (by decide),aB 12 (by decide)];refine jP (l1:=[rc 11,rc 12]) (l2:=aH 13) ?_;refine aw ?_;walk_at "l";refine fA rfl rfl rfl ?_
 with_reducible refine gJ (by with_unfolding_all rfl) (by with_unfolding_all rfl) (by with_unfolding_all decide) (by with_unfolding_all decide) ?_
 walk_at "mv";refine eV ok hsc (x:="_law_make") (a:=353) ∅ (ok.fn (353,26,["tag","attrib"]) ∅).obj ⋯ ⋯ rfl rfl ?_;walk_at "3";refine jO (ρ':=[]) oy ?_
 with_reducible refine gJ (by with_unfolding_all rfl) (by with_unfolding_all rfl) (by with_unfolding_all decide) (by with_unfolding_all decide) ?_
 repeat walk_at "mv"
 refine⟨by walk_at "k",by decide,rfl,w3,[.str (Str.ofString "x"),.none],rfl,rfl,rfl,?_⟩
 repeat walk_at "mv"
 refine sO ok2 rfl (tl:=.none) ⋯ ?_
 repeat walk_at "mv"
 refine⟨by walk_at "k",by decide,rfl,?_⟩;apply ad hsc ⋯
 ·walk_at "d"
 walk_at "mv";walk_at "asg";refine eV ok hsc (x:="_law_grow") (a:=360) ∅ (ok.fn (360,27,["things","letter","hang","head","ends"]) ∅).obj ⋯ ⋯ rfl rfl ?_
 repeat walk_at "mv"
 refine sx ok2 I 6 0 (d:=d) (done:=[0]) (rf:=fun J=>(1,3,2)) rfl (by decide) (by decide) ?_ (by decide) (by rw[hpre];decide) fun g H' rf' P hg1 hg2 hg3=>?_
 ·refine⟨rfl,fun j hj=>?_,fun j hj=>?_,fun j hj=>?_,fun i hi j hj J=>?_,by decide,fun j hj=>?_,fun j hj h1=>?_⟩
  ·rfl
  ·rw[List.mem_singleton.mp hj];rfl
  ·rw[List.mem_singleton.mp hj];rfl
  ·rw[List.mem_singleton.mp hj,List.mem_singleton.mp hi]
  ·rw[List.mem_singleton.mp hj];decide
  ·rw[List.mem_singleton.mp hj] at h1;omega
 apply ad hsc ⋯
 ·walk_at "d"
 walk_at "mv";refine⟨zF pm cells,fun x u' hm=>?_,h⟩;rcases List.mem_append.mp hm with hm | hm
 ·refine⟨u',?_,du.same _ (uL cells _ hm)⟩;refine(?_:∀ p∈nN cells,p∈_) _ hm;walk_at "in"
 ·have G:=P.g;rw[hpre] at hg2;refine bB (u:=.ob 0) (by walk_at "g") ?_ (bB (u:=.ob g) (by walk_at "g") ?_ oy) x u' hm
  ·have hd:=G.dict;rw[hpre] at hd;refine .od (Nat.zero_le _) hd ?_;have F:=nT hpre hup G 6;exact .cons (F 0 (by decide) (by decide)) (.cons (F 1 (by decide) (by decide)) (.cons (F 2 (by decide) (by decide)) (.cons (F 3 (by decide) (by decide)) (.cons (F 4 (by decide) (by decide)) (.cons (F 5 (by decide) (by decide)) .nil)))))
  ·exact .ol (Nat.zero_le _) hg2 (aM.same _ (aC 0 (m0 (aq cells)) (fun J=>rfl) _))
variable{kx:X→Hp→Prop}
theorem Ct(ys:List Str):(Txt.join (Str.ofString "") ys).length=(ys.map (·.length)).sum:=by
 have h0:(Str.ofString "").cps.size=0:=by walk_at "k"
 have main:∀ (l:List Str) (a:Array Nat),(l.foldl (fun acc p=>acc++(Str.ofString "").cps++p.cps) a).size=a.size+(l.map (·.length)).sum:=fun l=>by
  induction l with
  | nil=>intro a;rfl
  | cons p l ih=>
   intro a;rw[List.foldl_cons,ih,List.map_cons,List.sum_cons,Array.size_append,Array.size_append,h0];show a.size+0+p.length+_=_;omega
 cases ys with
 | nil=>rfl
 | cons y l=>
  show(((y::l).drop 1).foldl (fun acc p=>acc++(Str.ofString "").cps++p.cps) ((y::l).headD Str.empty).cps).size=_;rw[main];rfl
theorem l8(ys:List Str)(m:Nat)(h:∀ y∈ys,y.length≤m):(ys.map (·.length)).sum≤ys.length * m:=by
 induction ys with
 | nil=>simp
 | cons y l ih=>
  rw[List.map_cons,List.sum_cons,List.length_cons,Nat.add_mul,Nat.one_mul];have:=ih fun z hz=>h z (List.mem_cons_of_mem _ hz);have:=h y List.mem_cons_self;omega
theorem pW{ups:List Nat}{kept tails:List Str}(hk:∀ i,(kept.getD i ⟨#[]⟩).length≤100)(ht:∀ i,(tails.getD i ⟨#[]⟩).length≤100):∀ (f p:Nat),∀ y∈cJ ups kept tails f p,y.length≤100
 | 0=>fun p y h=>by exists h
 | f+1=>fun p y h=>by
  rw[oP] at h;rcases List.mem_cons.mp h with rfl | h
  ·exact hk p
  ·refine ab (fun kid J h=>?_) (List.mem_flatMap.mp h);split at h
   ·rcases List.mem_append.mp h with h | h
    ·exact pW hk ht f kid y h
    ·rw[List.mem_singleton.mp h];exact ht kid
   ·exists h
theorem kZ(cells:List Nat)(i:Nat):((aq cells).getD i ⟨#[]⟩).length≤100:=by
 have h5:cells.sum % 5 < 5:=Nat.mod_lt _ (by decide);rw[List.getD_eq_getElem?_getD];cases e:(aq cells)[i]? with
 | none=>exact Nat.zero_le _
 | some y=>
  unfold aq bS at e;rw[List.getElem?_map] at e;refine ab (fun l hl t=>?_) (Option.map_eq_some_iff.mp e);obtain rfl:=t;rcases List.mem_cons.mp (List.mem_of_getElem? hl) with rfl | hm
  ·show(Str.ofString "x").length≤100;walk_at "k"
  ·refine ab (fun c J t=>?_) (List.mem_map.mp hm);obtain rfl:=t;exact wf h5
theorem qn(e:Nat):(aU e).length≤1:=by
 unfold aU;split
 ·walk_at "k"
 ·exact Nat.zero_le _
theorem mB(ends:List Nat)(i:Nat):((ends.map aU).getD i ⟨#[]⟩).length≤1:=by
 rw[List.getD_eq_getElem?_getD];cases e:(ends.map aU)[i]? with
 | none=>exact Nat.zero_le _
 | some y=>
  rw[List.getElem?_map] at e;refine ab (fun l J t=>?_) (Option.map_eq_some_iff.mp e);obtain rfl:=t;exact qn l
noncomputable def kM(cells:List Nat)(p:Nat):List Str:=tE (aK cells) (aq cells) (bn cells) 6 p
noncomputable def cw(cells:List Nat)(p:Nat):Str:=Txt.join (Str.ofString "") (kM cells p)
theorem sg(cells:List Nat)(p:Nat):∀ y∈kM cells p,y.length≤100:=fun y h=>by
 unfold kM tE at h;rcases List.mem_append.mp h with h | h
 ·exact pW (kZ cells) (fun i=>Nat.le_trans (mB _ i) (by decide)) 6 p y h
 ·split at h
  ·rw[List.mem_singleton.mp h];walk_at "k"
  ·exists h
theorem sf(hup:∀ i,1≤i→i≤5→(aK cells).getD i 0 < i)(hp:p≤5):(kM cells p).length≤65:=by
 unfold kM tE;have:=dW (kept:=aq cells) (tails:=(bn cells).map aU) hup 6 p hp;have:2 ^ (6 - p)≤2 ^ 6:=Nat.pow_le_pow_right (by decide) (Nat.sub_le 6 p);rw[List.length_append];split
 ·rw[List.length_singleton];omega
 ·rw[List.length_nil];omega
theorem gX(hup:∀ i,1≤i→i≤5→(aK cells).getD i 0 < i)(hp:p≤5):(cw cells p).length≤6500:=by
 unfold cw;rw[Ct];have:=l8 _ 100 (sg cells p);have:=sf hup hp;omega
variable{kx:X→Hp→Prop}
variable{l b:Addr}{xs ys:Array Value}{n2:Nat}
theorem uN{R:Result→Shared→Prop}(hsz:xs.size=ys.size)(k:Nat):∀ (i:Nat) (s:Shared),xs.size - i=k→
  s.heap.get? l=some {cls:=.type "list",data:=.seq xs n}→s.heap.get? b=some {cls:=.type "list",data:=.seq ys n2}→
  (∀ j (h1:j < xs.size) (h2:j < ys.size) (Q:Bool→Shared→Prop) (E:Value→Shared→Prop),Q true s→wpAny (model prog w) A.in1 (eqBool xs[j] ys[j]) Q E s)→R (.ok (.ret (.bool true))) s→
  wpAny (model prog w) A.in1 (Builtin.«list.__eq__.loop» ⟨[.ref l,.ref b,rawInt i,rawInt 2],[]⟩) (fun fin s'=>match fin with | .done f=>R (.ok f) s' | .again c'=>c'.quiet=true∧codeAny (model prog w) A c' R s') (fun e s'=>R (.error e) s') s:=by
 induction k with
 | zero=>
  intro i s hk hl hb he h;obtain⟨hp,g,d,tk,os⟩:=s
  wp_walk using PySem.AutoSeq1.wpAny_loadPart' hl,PySem.AutoSeq1.wpAny_loadPart' hb
  have e1:xs[((i:Nat):Int).toNat]? =none:=Array.getElem?_eq_none (Nat.le_of_sub_eq_zero hk);have e2:ys[((i:Nat):Int).toNat]? =none:=Array.getElem?_eq_none (hsz▸Nat.le_of_sub_eq_zero hk);rw[e1,e2]
  wp_walk using PySem.AutoSeq1.wpAny_loadPart' hl,PySem.AutoSeq1.wpAny_loadPart' hb
  show R (.ok (.ret (.bool (xs.size==ys.size)))) _;rw[hsz,beq_self_eq_true];exact h
 | succ k ih=>
  intro i s hk hl hb he h;obtain⟨hp,g,d,tk,os⟩:=s
  wp_walk using PySem.AutoSeq1.wpAny_loadPart' hl,PySem.AutoSeq1.wpAny_loadPart' hb
  have h1:i < xs.size:=Nat.lt_of_sub_pos (hk▸Nat.succ_pos k);have h2:i < ys.size:=hsz▸h1;have e1:xs[((i:Nat):Int).toNat]? =some xs[i]:=by simp[h1]
  have e2:ys[((i:Nat):Int).toNat]? =some ys[i]:=by simp[h2]
  have hc:((i:Int)+1)=((i+1:Nat):Int):=by push_cast;rfl
  rw[e1,e2];refine wpAny_bind (he i h1 h2 _ _ ?_)
  wp_walk
  rw[hc]
  exact⟨plainId_quiet PySem.MeetsSeq3.plain_eq_loop _,codeAny_builtin PySem.MeetsSeq3.entry_eq_loop (by
   rw[Around.under_plainId PySem.MeetsSeq3.plain_eq_loop _];exact ih (i+1) _ (congrArg Nat.pred hk) hl hb he h)⟩
variable{s:Shared}
theorem rF{Q:Value→Shared→Prop}(hsz:xs.size=ys.size)(hl:s.heap.get? l=some {cls:=.type "list",data:=.seq xs n})(hb:s.heap.get? b=some {cls:=.type "list",data:=.seq ys n2})(hu:A.units < cLine)(he:∀ j (h1:j < xs.size) (h2:j < ys.size) (Q:Bool→Shared→Prop) (E:Value→Shared→Prop),Q true s→wpAny (model prog w) A.in1 (eqBool xs[j] ys[j]) Q E s)(h:Q (.bool true) s):
  wpAny (model prog w) A (compareOp .Eq (.ref l) (.ref b)) Q E s:=by
 refine wpAny_richCompare_same_room (op:=.Eq) (T:="list") (id:="list.__eq__") ⟨_,hl,rfl⟩ ⟨_,hb,rfl⟩ F.slot_list_eq ?_ hu;refine wpAny_call (codeAny_call_builtin F.slot_list_eq.plain F.entry_list_eq (F.slot_list_eq.check _ _ _ _ (.ref l) _ _ _ (show s.TypeIs (.ref l) "list" from⟨_,hl,rfl⟩) (F.args_list_eq_2 _ _) ?_));obtain⟨hp,g,d,tk,os⟩:=s;have f3:=PySem.AutoSeq1.sub_list_list;have hne:¬ (xs.size != ys.size)=true:=by simp[hsz]
 wp_walk using PySem.AutoSeq1.wpAny_loadPart' hl,PySem.AutoSeq1.wpAny_loadPart' hb
 exact⟨plainId_quiet PySem.MeetsSeq3.plain_eq_loop _,codeAny_builtin PySem.MeetsSeq3.entry_eq_loop (by
  rw[Around.under_plainId PySem.MeetsSeq3.plain_eq_loop _];exact uN (R:=fun r s'=>match r with | .ok (.ret v)=>v≠ .notImplemented∧Q v s' | .ok _=>False | .error e=>E e s') hsz _ 0 _ rfl hl hb he ⟨(fun x=>nomatch x),h⟩)⟩
theorem vz{Q:Bool→Shared→Prop}(h:∀ Q:Value→Shared→Prop,Q (.bool true) s→wpAny (model prog w) A (compareOp .Eq (.ref l) (.ref b)) Q E s)(hq:Q true s):wpAny (model prog w) A (eqBool (.ref l) (.ref b)) Q E s:=by
 unfold eqBool;refine wpAny_holding ?_;refine wpAny_ite_split (fun J=>wpAny_bind (wpAny_rule (wpAny_pure hq))) (fun J=>?_);exact wpAny_bind (h _ (wpAny_truthy_bool hq))
theorem eq_str{t u:Tok}(hu:A.units+min (PyData.str x).depth (PyData.str x).depth < cLine)(hx:PyData.strOk x=true):SeqAt.EqAt A s (.str x t) (.str x u) true:=by
 have h:=SeqAt.eqAt_reads (.str x) (.str x) A s (.str x t) (.str x u) [] [] (.str x t) (.str x u) hx hx hu;have e:PyData.eqv (.str x) (.str x)=true:=by simp[PyData.eqv]
 rw[e] at h;exact h
theorem ru{k1 k2:Str}(hne:¬ k1=k2)(hok:∀ p∈ps,PyData.strOk p.1=true∧PyData.strOk p.2=true)(h:k (.bool true) H):
  Pr prog w K (d+2) hd [.lst (ps.map fun p=>V.dct [k1,k2] [.str p.1,.str p.2]),.lst (ps.map fun p=>V.dct [k1,k2] [.str p.1,.str p.2])] (kL .Eq) H k kx:=by
 refine az fun A σ Z s u v Q E hA S h1 h2 hQ hE=>?_;obtain⟨l,xs,rfl,f1,⟨n,hl⟩,hxs⟩:=h1;obtain⟨b,ys,rfl,f2,⟨n2,hb⟩,hys⟩:=h2;have hu:=hA.units;refine rF (by have:=hxs.length;have:=hys.length;simp at *;omega) hl hb (by omega) (fun j j1 j2 Q' E' hq=>?_) (hQ _ s σ (.bool true) H (Go.refl ..) S VR.bool h);have hj:j < ps.length:=by have:=hxs.length;simp at this;omega
 refine ab (fun x ex hx=>?_) (ak.get hxs (i:=j) (by rw[List.getElem?_map,List.getElem?_eq_getElem hj];rfl));refine ab (fun y ey hy=>?_) (ak.get hys (i:=j) (by rw[List.getElem?_map,List.getElem?_eq_getElem hj];rfl));rw[Array.getElem?_toList,Array.getElem?_eq_getElem j1] at ex;rw[Array.getElem?_toList,Array.getElem?_eq_getElem j2] at ey;exists ex;exists ey;obtain⟨a1,v1,e1,fa1,D1,r1⟩:=hx;obtain⟨a2,v2,e2,fa2,D2,r2⟩:=hy;rw[e1,e2];obtain⟨x1,x2,rfl,q1,q2⟩:=r1.inv2;obtain⟨y1,y2,rfl,q3,q4⟩:=r2.inv2
 revert q1;refine af fun t1 t=>?_;obtain rfl:=t
 revert q2;refine af fun t2 t=>?_;obtain rfl:=t
 revert q3;refine af fun t3 t=>?_;obtain rfl:=t
 revert q4;refine af fun t4 t=>?_;obtain rfl:=t
 refine am (fun o1 o2=>?_) (hok _ (List.getElem_mem hj));refine vz (fun Q2 hq2=>?_) hq
 have hsys:∀ a:Addr,378≤a→(a==sysModules)=false:=fun a ha=>by
  rw[beq_eq_false_iff_ne];intro e;rw[e] at ha;exact absurd ha (by decide)
 have hus:∀ {x:Str},(A.in1.in1).units+min (PyData.str x).depth (PyData.str x).depth < cLine:=by intro x;show A.units+1+1+0 < cLine;omega
 refine keq_eq (r:=true) (knd:=strKind prog w) (hsys _ fa1.lo) (hsys _ fa2.lo) D1.of D2.of (by show A.units+1 < cLine;omega) (fun J=>?_) hq2;refine KeqHits.hit (e:=true) (b:=true) (y:=.str ps[j].1 t3) ?_ (eq_str hus o1) (KeqHits.hit (e:=true) (b:=true) (y:=.str ps[j].2 t4) ?_ (eq_str hus o2) KeqHits.nil)
 ·simp[valueAt]
 ·simp[valueAt,hne]
mutual
theorem V.lays:∀ x:V,x.isDat=true→x.dat.canLay0=true
 | .none,_ | .bool _,_ | .int _,_=>rfl
 | .str s,h=>h
 | .lst l,h | .tup l,h=>sL l h
 | .bi _,h | .ty _,h | .gl _,h | .dct _ _,h | .ob _,h | .fin _ _ _,h | .thg _ _,h | .bm _ _,h | .slc _ _ _,h | .clo _ _ _,h | .ins _ _,h | .exc _ _,h=>ft h
theorem sL:∀ l:List V,b9 l=true→PyData.canLayAll0 (bA l)=true
 | []=>fun J=>rfl
 | x::l=>fun h=>fJ (V.lays x (kc h).1) (sL l (kc h).2)
end
variable{x:V}
theorem dJ(hx:x.isDat=true)(hdp:x.dat.depth≤30)(h:k (.bool false) H):Pr prog w K (d+1) hd [x,x] (kL .NotEq) H k kx:=
 uF hx hx hdp (by rw[SeqAt.eqv_refl _ (V.lays x hx)];exact h)
theorem ml(hx:x.isDat=true)(hdp:x.dat.depth≤30)(h:k (.bool true) H):Pr prog w K (d+1) hd [x,x] (kL .Eq) H k kx:=
 uz hx hx hdp (by rw[SeqAt.eqv_refl _ (V.lays x hx)];exact h)
theorem rZ{α:Type}(f:α→V)(h:∀ a,(f a).isDat=true):∀ l:List α,b9 (l.map f)=true
 | []=>rfl
 | a::l=>fJ (h a) (rZ f h l)
theorem se:∀ l:List V,(∀ a∈l,a.isDat=true)→b9 l=true
 | []=>fun J=>rfl
 | a::l=>fun h=>fJ (h a List.mem_cons_self) (se l fun b hb=>h b (List.mem_cons_of_mem _ hb))
theorem ni(n:Nat):∀ l:List V,(∀ a∈l,a.dat.depth≤n)→PyData.depthAll (bA l)≤n
 | []=>fun J=>Nat.zero_le _
 | a::l=>fun h=>Nat.max_le.mpr ⟨h a List.mem_cons_self,ni n l fun b hb=>h b (List.mem_cons_of_mem _ hb)⟩
variable{l:List V}
theorem fw(h:∀ a∈l,a.dat.depth≤n):(V.lst l).dat.depth≤n+1:=Nat.succ_le_succ (ni n l h)
theorem ia(h:∀ a∈l,a.isDat=true):(V.lst l).isDat=true:=se l h
variable{kx:X→Hp→Prop}
noncomputable def ds:List Nat:=[0,1,2,3,4,5]
theorem aL(h:i∈ds):i≤5:=by simp[ds] at h;omega
theorem g9(cells:List Nat):(bn cells).length=cells.length+1:=by unfold bn;rw[List.length_cons,List.length_map]
noncomputable def f6(cells:List Nat):V:=.lst (ds.map fun i=>.lst ((kM cells i).map V.str))
noncomputable def Bv(cells:List Nat):V:=.lst (ds.map fun i=>.str (cw cells i))
theorem jw(cells:List Nat)(h:i≤5):(ds.map fun i=>V.str (cw cells i))[i]? =some (.str (cw cells i)):=by
 exact n6 rfl rfl rfl rfl rfl rfl i h
noncomputable def eY(cells:List Nat)(p:Nat):Bool:=decide (2 * (cw cells p).length≤(cw cells 0).length)
noncomputable def sy(cells:List Nat):V:=.lst (ds.map fun i=>.bool (eY cells i))
theorem xU(cells:List Nat)(h:i≤5):(ds.map fun i=>V.bool (eY cells i))[i]? =some (.bool (eY cells i)):=by
 exact n6 rfl rfl rfl rfl rfl rfl i h
noncomputable def wv(cells:List Nat)(x:Nat):Bool:=decide ((2:Int) * (((cw cells 0).length:Int) - ((cw cells x).length:Int))≤((cw cells 0).length:Int))&&(aD (aK cells) x).all (eY cells)
noncomputable def yn(cells:List Nat):List Nat:=ds.filter (wv cells)
noncomputable abbrev gF(cells:List Nat):Str×V:=("pieces",f6 cells)
theorem Cy(ok2:dz K pm)(hsc:Sc env (aj 30) (own env))(hl5:cells.length=5)(hup:∀ i,1≤i→i≤5→(aK cells).getD i 0 < i)(I:gD (lN cells) (gM cells) (aK cells) (aq cells) (bn cells)){kxs:X→ai→Hp→Prop}(h:Ex prog w K (d+9) ⟨true,top⟩ env [cj cells,d0 cells,d6 cells,jF cells,jE cells,iZ cells,gn cells,gm cells,cH cells,lD cells,iO cells,gi pm cells,gj cells,gF cells] (execs (aH 14) env) [] ks kxs):
  Ex prog w K (d+9) ⟨true,top⟩ env [cj cells,d0 cells,d6 cells,jF cells,jE cells,iZ cells,gn cells,gm cells,cH cells,lD cells,iO cells,gi pm cells,gj cells] (execs (aH 13) env) [] ks kxs:=by
 have ok:=ok2.ok;rw[aB 13 (by decide)];refine aw ?_;walk_at "l";refine di hsc (aA rfl fun J J=>rfl) ⋯ (ag.skip (ag.skip (ag.skip (ag.skip (ag.skip (ag.skip (ag.skip (ag.skip (ag.skip (ag.skip (ag.skip (ag.take ⋯ (ag.skip (ag.nil)))))))))))))) ⋯ ⋯ ⋯ (ρ':=fun u=>[cj cells,d0 cells,d6 cells,jF cells,jE cells,iZ cells,gn cells,gm cells,cH cells,lD cells,iO cells,gi pm cells,gj cells,("pieces",u)]) ?hp ?_
 case hp=>
  intro u;walk_at "d"
 refine aX ?_;walk_at "mv";refine⟨_,lX rfl,fun cenv Xw hc=>?_⟩;rw[show dY (Str.ofString "pdbeac")=ds.map fun i=>V.str (bH i) from by kernel_rfl];refine bL hc (fun i=>V.str (bH i)) (fun i=>V.lst ((kM cells i).map V.str)) ⋯ ⋯ (by decide) (fun i hi=>?_) fun ρ2=>?_
 ·have hi5:i≤5:=aL hi;refine eV ok hc (x:="_law_written") (a:=367) ∅ (ok.fn (367,28,["thing"]) ∅).obj ⋯ ⋯ rfl rfl ?_;walk_at "mv";walk_at "ix";walk_at "2";refine⟨rfl,ie (iC (done:=ds) (F:=bk pm (aK cells) (aq cells) (bn cells) 6) (fun j hj=>aL hj) hi hi5) ?_⟩;walk_at "mv";exact rU (d:=d+1) (f:=5) ok2 hup (by rw[g9,hl5]) rfl (by omega) hi5 ⟨rfl,rfl⟩
 ·exact h
noncomputable abbrev tF(cells:List Nat):Str×V:=("texts",Bv cells)
theorem Cz(ok2:dz K pm)(hsc:Sc env (aj 30) (own env))(hl5:cells.length=5)(hup:∀ i,1≤i→i≤5→(aK cells).getD i 0 < i)(I:gD (lN cells) (gM cells) (aK cells) (aq cells) (bn cells)){kxs:X→ai→Hp→Prop}(h:Ex prog w K (d+9) ⟨true,top⟩ env [cj cells,d0 cells,d6 cells,jF cells,jE cells,iZ cells,gn cells,gm cells,cH cells,lD cells,iO cells,gi pm cells,gj cells,gF cells,tF cells] (execs (aH 15) env) [] ks kxs):
  Ex prog w K (d+9) ⟨true,top⟩ env [cj cells,d0 cells,d6 cells,jF cells,jE cells,iZ cells,gn cells,gm cells,cH cells,lD cells,iO cells,gi pm cells,gj cells,gF cells] (execs (aH 14) env) [] ks kxs:=by
 have ok:=ok2.ok;rw[aB 14 (by decide)];refine aw ?_;walk_at "l";refine aN hsc ⋯ ?_;refine au hsc (aA rfl fun J J=>rfl) ⋯ (ag.skip (ag.skip (ag.skip (ag.skip (ag.skip (ag.skip (ag.skip (ag.skip (ag.skip (ag.skip (ag.skip (ag.skip (ag.skip (ag.skip (ag.nil))))))))))))))) ?_;refine aX ?_;walk_at "mv";refine⟨_,aS rfl,fun cenv Xw hc=>?_⟩;refine bL hc (fun i=>V.lst ((kM cells i).map V.str)) (fun i=>V.str (cw cells i)) ⋯ ⋯ (by decide) (fun i hi=>?_) fun ρ2=>?_
 ·have hi5:i≤5:=aL hi;refine bl (id:="str.join") rfl rfl rfl ?_;walk_at "mv";refine⟨lM F.slot_str_join F.type_str_join,?_⟩;walk_at "3";refine oQ ?_ ⟨rfl,rfl⟩;have:=l8 _ 100 (sg cells i);have:=sf hup hi5;have h0:(Str.ofString "").length=0:=by walk_at "k"
  rw[h0];omega
 ·apply ad hsc ⋯
  ·walk_at "d"
  exact h
theorem CA(ok2:dz K pm)(hsc:Sc env (aj 30) (own env))(hl5:cells.length=5)(hup:∀ i,1≤i→i≤5→(aK cells).getD i 0 < i)(I:gD (lN cells) (gM cells) (aK cells) (aq cells) (bn cells)){kxs:X→ai→Hp→Prop}(h:Ex prog w K (d+9) ⟨true,top⟩ env [cj cells,d0 cells,d6 cells,jF cells,jE cells,iZ cells,gn cells,gm cells,cH cells,lD cells,iO cells,gi pm cells,gj cells,gF cells,tF cells,("half",sy cells)] (execs (aH 16) env) [] ks kxs):
  Ex prog w K (d+9) ⟨true,top⟩ env [cj cells,d0 cells,d6 cells,jF cells,jE cells,iZ cells,gn cells,gm cells,cH cells,lD cells,iO cells,gi pm cells,gj cells,gF cells,tF cells] (execs (aH 15) env) [] ks kxs:=by
 have ok:=ok2.ok;rw[aB 15 (by decide)];refine aw ?_;walk_at "l";refine aN hsc ⋯ ?_;refine au hsc (aA rfl fun J J=>rfl) ⋯ (ag.skip (ag.skip (ag.skip (ag.skip (ag.skip (ag.skip (ag.skip (ag.skip (ag.skip (ag.skip (ag.skip (ag.skip (ag.skip (ag.skip (ag.take ⋯ (ag.nil)))))))))))))))) ?_;refine aX ?_;walk_at "mv";refine⟨_,aS rfl,fun cenv Xw hc=>?_⟩;refine bL hc (fun i=>V.str (cw cells i)) (fun i=>V.bool (eY cells i)) ⋯ ⋯ (by decide) (fun i hi=>?_) fun ρ2=>?_
 ·have hi5:i≤5:=aL hi;walk_at "3";refine cQ ok hc ⋯ eA rfl rfl ?_;walk_at "3";refine dI (by have:=gX hup hi5;omega) ?_;refine oS (a:=2) (by decide) ?_;refine cQ ok hc ⋯ eA rfl rfl ?_;walk_at "mv";walk_at "ixn";walk_at "2";refine⟨_,0,.str (cw cells 0),.l,rfl,jw cells (by decide),Nat.le_of_ble_eq_true rfl,?_⟩;walk_at "mv";refine dI (by have:=gX hup (p:=0) (by decide);omega) ?_;exact wS ⟨rfl,rfl⟩
 ·apply ad hsc ⋯
  ·walk_at "d"
  exact h
noncomputable abbrev kN(cells:List Nat):Str×V:=("middle",al (yn cells))
theorem CB(ok2:dz K pm)(hsc:Sc env (aj 30) (own env))(hl5:cells.length=5)(hup:∀ i,1≤i→i≤5→(aK cells).getD i 0 < i)(I:gD (lN cells) (gM cells) (aK cells) (aq cells) (bn cells)){kxs:X→ai→Hp→Prop}(h:Ex prog w K (d+9) ⟨true,top⟩ env [cj cells,d0 cells,d6 cells,jF cells,jE cells,iZ cells,gn cells,gm cells,cH cells,lD cells,iO cells,gi pm cells,gj cells,gF cells,tF cells,("half",sy cells),kN cells] (execs (aH 17) env) [] ks kxs):
  Ex prog w K (d+9) ⟨true,top⟩ env [cj cells,d0 cells,d6 cells,jF cells,jE cells,iZ cells,gn cells,gm cells,cH cells,lD cells,iO cells,gi pm cells,gj cells,gF cells,tF cells,("half",sy cells)] (execs (aH 16) env) [] ks kxs:=by
 have ok:=ok2.ok;rw[aB 16 (by decide)];refine aw ?_;walk_at "l";refine di hsc (aA rfl fun J J=>rfl) ⋯ (ag.skip (ag.skip (ag.skip (ag.skip (ag.skip (ag.skip (ag.skip (ag.skip (ag.skip (ag.take ⋯ (ag.skip (ag.skip (ag.skip (ag.skip (ag.take ⋯ (ag.take ⋯ (ag.nil))))))))))))))))) ⋯ ⋯ ⋯ (ρ':=fun u=>[cj cells,d0 cells,d6 cells,jF cells,jE cells,iZ cells,gn cells,gm cells,cH cells,lD cells,iO cells,gi pm cells,gj cells,gF cells,tF cells,("half",sy cells),("middle",u)]) ?hp ?_
 case hp=>
  intro u;walk_at "d"
 refine cp ok hsc ⋯ aJ rfl rfl ?_
 repeat walk_at "mv"
 refine⟨_,bf rfl ⟨by decide,by decide⟩,fun cenv Xw hc=>?_⟩;refine am (fun hcf hck=>?_) ((ok.hsF (245,7,["self","name"]) ∅).at);refine nC (xs:=ds) hc ah (wv cells) ah ⋯ ⋯ (by decide) (fun i hi=>?_) (fun i hi hp=>?_) fun ρ2=>?_
 ·have hi5:i≤5:=aL hi;refine cY (vx (iR ?_));walk_at "4";refine cQ ok hc ⋯ eA rfl rfl ?_;walk_at "mv";walk_at "ixn";walk_at "2";refine⟨_,0,.str (cw cells 0),.l,rfl,jw cells (by decide),Nat.le_of_ble_eq_true rfl,?_⟩;walk_at "mv";refine dI (by have:=gX hup (p:=0) (by decide);omega) ?_;refine cQ ok hc ⋯ eA rfl rfl ?_;walk_at "mv";walk_at "ixn";walk_at "2";refine⟨_,i,.str (cw cells i),.l,rfl,jw cells (hi5),Nat.le_of_ble_eq_true rfl,?_⟩;walk_at "mv";refine dI (by have:=gX hup (p:=i) (hi5);omega) ?_;refine rA ?_;refine oR (IntMulOk.of_left (by decide)) ?_;refine cQ ok hc ⋯ eA rfl rfl ?_;walk_at "mv";walk_at "ixn";walk_at "2";refine⟨_,0,.str (cw cells 0),.l,rfl,jw cells (by decide),Nat.le_of_ble_eq_true rfl,?_⟩;walk_at "mv";refine dI (by have:=gX hup (p:=0) (by decide);omega) ?_;refine zE ?_;refine fh ?_;unfold wv;cases hA:decide ((2:Int) * (((cw cells 0).length:Int) - ((cw cells i).length:Int))≤((cw cells 0).length:Int)) with
  | false=>exact⟨rfl,rfl⟩
  | true=>
   refine iR ?_;refine bY rfl ?_;refine cQ ok hc ⋯ vc rfl rfl ?_;walk_at "mv";refine au hc (aA rfl fun J J=>rfl) ⋯ (ag.skip (ag.skip (ag.skip (ag.take ⋯ ag.nil)))) ?_;refine aX ?_;refine bZ rfl rfl rfl hck ?_;walk_at "mv";refine⟨bN ok ∅ hcf iF ∅,?_⟩;walk_at "mv";walk_at "ix";walk_at "2";refine⟨rfl,cX (by omega) (by omega) (pZ i (by omega)) ?_⟩;walk_at "mv";have hlw:=oJ i (by omega);refine lP ok rfl I.l1 I.o1 (by show(1:Nat)≤1000;decide) hlw.1 hlw.2.1 ?_;rw[show gh (lN cells) ⟨#[yF.getD i 0]⟩=_ from I.all i hi5];refine⟨_,aS rfl,fun cenv2 Xw2 hc2=>?_⟩;rw[List.map_map];refine bL hc2 (V.str∘bH) (fun kid=>V.bool (eY cells kid)) ⋯ ⋯ ?_ (fun kid hkid=>?_) fun ρ3=>?_
   ·unfold aD;exact Nat.le_trans (List.length_filter_le _ _) (by decide)
   ·refine gT (fun k1 k5 J=>?_) (fD hkid);walk_at "ixn";walk_at "mv"
    with_reducible refine bl (id:="str.index") (by with_unfolding_all rfl) (by with_unfolding_all rfl) (by with_unfolding_all rfl) ?_
    walk_at "mv";refine⟨ki,?_⟩;walk_at "3";refine af (fun orest hocc=>?_) (sT kid (by omega));refine jt hocc ?_;refine⟨_,kid,.bool (eY cells kid),.l,rfl,xU cells k5,Nat.le_of_ble_eq_true rfl,⟨rfl,rfl⟩⟩
   ·walk_at "mv";rw[show(fun kid=>V.bool (eY cells kid))=V.bool∘eY cells from rfl,←List.map_map];refine wH rfl ?_;have hall:((aD (aK cells) i).map (eY cells)).all id=(aD (aK cells) i).all (eY cells):=by rw[List.all_map,Function.id_comp]
    rw[hall];refine fh ?_;cases (aD (aK cells) i).all (eY cells) with
    | true=>exact iQ ⟨rfl,rfl⟩
    | false=>exact⟨rfl,rfl⟩
 ·walk_at "mv";exact⟨rfl,rfl⟩
 ·exact h
noncomputable def v4(st:BA)(u place:Nat):BA:=(st.1.take (st.1.idxOf u+1)++[place],st.2.1++[u],st.2.2++[place::st.2.2.getD u []])
noncomputable def lO:Nat→List BA
 | 0=>[([0],[0],[[0]])]
 | n+1=>(lO n).flatMap fun st=>st.1.map fun u=>v4 st u (n+1)
theorem sC{rows:List (List Bool)}(ht:∀ p,1≤p→p≤5→(rows.getD p []).getD 0 false=true):∀ n,n≤5→ae rows n∈lO n
 | 0=>fun J=>List.mem_singleton.mpr rfl
 | n+1=>fun h=>by
  have ih:=sC ht n (by omega);refine af (fun r hr=>?_) ((lQ ht n (by omega)).zero);refine fo (fun u hu1 hu2 hu3=>?_) (fS (place:=n+1) (by rw[hr];exact List.mem_cons_self:0∈(ae rows n).1) (ht (n+1) (by omega) h));rw[lO];refine List.mem_flatMap.mpr ⟨_,ih,List.mem_map.mpr ⟨u,hu2,?_⟩⟩;show v4 (ae rows n) u (n+1)=bD rows (ae rows n) (n+1);unfold bD v4;rw[hu3]
noncomputable def cg(ch:List (List Nat))(y k:Nat):Bool:=(ch.getD y []).contains k
noncomputable def cq(ch:List (List Nat))(x y:Nat):Nat:=(((ch.getD x []).filter fun one=>(ch.getD y []).contains one).head?).getD 0
structure fk(ups:List Nat)(ch:List (List Nat)):Prop where
 ul:ups.length=6
 cl:ch.length=6
 up:∀ k,k < 6→1≤k→ups.getD k 0 < k
 up0:ups.getD 0 0=0
 pre:dK ups 6 0=[1,2,3,4,5]
 c:∀ y,y < 6→∀ k,k < 6→1≤y→cg ch y k=(decide (k=y) || cg ch (ups.getD y 0) k)
 c0:∀ k,k < 6→cg ch k 0=true
 cc:∀ k,k < 6→cg ch k k=true
 c1:∀ k,k < 6→cg ch 0 k=decide (k=0)
 le:∀ y,y < 6→∀ k,k < 6→cg ch y k=true→k≤y
 tr:∀ y,y < 6→∀ k,k < 6→∀ j,j < 6→cg ch y k=true→cg ch k j=true→cg ch y j=true
 dj:∀ y,y < 6→∀ k,k < 6→∀ x,x < 6→cg ch y x=true→cg ch y k=true→(cg ch x k || cg ch k x)=true
 kid:∀ k,k < 6→∀ x,x < 6→cg ch k x=true→k=x∨∃ c,c < 6∧1≤c∧ups.getD c 0=x∧cg ch k c=true
 sp:∀ y,y < 6→∀ p,p < 6→(cg ch y p).toNat=(decide (y=p)).toNat+(bE.map fun kid=>if ups.getD kid 0=p then (cg ch y kid).toNat else 0).sum
 m1:∀ k,k < 6→∀ y,y < 6→1≤k→cg ch y k=true→cq ch k y=k∧cq ch (ups.getD k 0) y=ups.getD k 0
 m2:∀ k,k < 6→∀ y,y < 6→1≤k→cg ch y k=false→cq ch k y=cq ch (ups.getD k 0) y
 m3:∀ k,k < 6→∀ y,y < 6→cq ch k y < 6∧((ch.getD k []).filter fun one=>(ch.getD y []).contains one)≠[]
 cll:∀ k,k < 6→(ch.getD k []).length≤6
theorem w2:∀ st∈lO 5,fk st.2.1 st.2.2:=by
 have h:∀ st∈lO 5,(st.2.1.length=6∧st.2.2.length=6∧(∀ k,k < 6→1≤k→st.2.1.getD k 0 < k)∧st.2.1.getD 0 0=0∧dK st.2.1 6 0=[1,2,3,4,5]
  ∧(∀ y,y < 6→∀ k,k < 6→1≤y→cg st.2.2 y k=(decide (k=y) || cg st.2.2 (st.2.1.getD y 0) k))∧(∀ k,k < 6→cg st.2.2 k 0=true)∧(∀ k,k < 6→cg st.2.2 k k=true)∧(∀ k,k < 6→cg st.2.2 0 k=decide (k=0))
  ∧(∀ y,y < 6→∀ k,k < 6→cg st.2.2 y k=true→k≤y)):=by walk_at "k"
 have h21:∀ st∈lO 5,∀ y,y < 6→∀ k,k < 6→∀ j,j < 6→(!(cg st.2.2 y k&&cg st.2.2 k j) || cg st.2.2 y j)=true:=by walk_at "k"
 have h22:∀ st∈lO 5,∀ y,y < 6→∀ k,k < 6→∀ x,x < 6→(!(cg st.2.2 y x&&cg st.2.2 y k) || (cg st.2.2 x k || cg st.2.2 k x))=true:=by walk_at "k"
 have h3:∀ st∈lO 5,((∀ k,k < 6→∀ x,x < 6→cg st.2.2 k x=true→k=x∨∃ c,c < 6∧1≤c∧st.2.1.getD c 0=x∧cg st.2.2 k c=true)
  ∧(∀ y,y < 6→∀ p,p < 6→(cg st.2.2 y p).toNat=(decide (y=p)).toNat+(bE.map fun kid=>if st.2.1.getD kid 0=p then (cg st.2.2 y kid).toNat else 0).sum)):=by walk_at "k"
 have h41:∀ st∈lO 5,∀ k,k < 6→∀ y,y < 6→1≤k→(!cg st.2.2 y k || (cq st.2.2 k y==k&&cq st.2.2 (st.2.1.getD k 0) y==st.2.1.getD k 0))=true:=by walk_at "k"
 have h42:∀ st∈lO 5,∀ k,k < 6→∀ y,y < 6→1≤k→(cg st.2.2 y k || cq st.2.2 k y==cq st.2.2 (st.2.1.getD k 0) y)=true:=by walk_at "k"
 have h43:∀ st∈lO 5,((∀ k,k < 6→∀ y,y < 6→cq st.2.2 k y < 6∧((st.2.2.getD k []).filter fun one=>(st.2.2.getD y []).contains one)≠[])∧(∀ k,k < 6→(st.2.2.getD k []).length≤6)):=by walk_at "k"
 intro st hs;refine A8 (fun a1 a2 a3 a4 a5 a6 a7 t=>?_) (h st hs);revert t;refine gT fun a8 a9 a10=>?_;refine am (fun d1 d2=>?_) (h3 st hs);refine am (fun e3 e4=>?_) (h43 st hs);refine⟨a1,a2,a3,a4,a5,a6,a7,a8,a9,a10,fun y hy k hk j hj q1 q2=>?_,fun y hy k hk x hx q1 q2=>?_,d1,d2,fun k hk y hy h1 q=>?_,fun k hk y hy h1 q=>?_,e3,e4⟩
 ·have:=h21 st hs y hy k hk j hj;rw[q1,q2] at this;exact this
 ·have:=h22 st hs y hy k hk x hx;rw[q1,q2] at this;exact this
 ·have:=h41 st hs k hk y hy h1;rw[q,Bool.not_true,Bool.false_or,Bool.and_eq_true,beq_iff_eq,beq_iff_eq] at this;exact this
 ·have:=h42 st hs k hk y hy h1;rw[q,Bool.false_or,beq_iff_eq] at this;exact this
noncomputable def rT(ch:List (List Nat))(L:Nat→Int)(w:Nat→Int)(x y:Nat):Int:=w y * (L x+L y - 2 * L (cq ch x y))
noncomputable def jz(ch:List (List Nat))(L:Nat→Int)(w:Nat→Int)(x:Nat):Int:=(ds.map fun y=>rT ch L w x y).sum
noncomputable def cS(ch:List (List Nat))(w:Nat→Int)(k:Nat):Int:=(ds.map fun y=>if cg ch y k then w y else 0).sum
noncomputable def fL(w:Nat→Int):Int:=(ds.map w).sum
section
variable{ups:List Nat}{ch:List (List Nat)}{L w:Nat→Int}
variable{k:Nat}
theorem j8(T:fk ups ch)(h6:k < 6)(h1:1≤k):jz ch L w k=jz ch L w (ups.getD k 0)+(L k - L (ups.getD k 0)) * (fL w - 2 * cS ch w k):=by
 have main:∀ l:List Nat,(∀ y∈l,y < 6)→(l.map fun y=>rT ch L w k y).sum=(l.map fun y=>rT ch L w (ups.getD k 0) y).sum+(L k - L (ups.getD k 0)) * ((l.map w).sum - 2 * (l.map fun y=>if cg ch y k then w y else 0).sum):=fun l=>by
  induction l with
  | nil=>intro J;simp
  | cons y l ih=>
   intro hl;have hy:=hl y List.mem_cons_self;have:=ih fun z hz=>hl z (List.mem_cons_of_mem _ hz);simp only[List.map_cons,List.sum_cons];rw[this];unfold rT;cases hc:cg ch y k with
   | true=>
    refine am (fun e1 e2=>?_) (T.m1 k h6 y hy h1 hc);rw[e1,e2];simp only[if_true]
    grind
   | false=>
    rw[T.m2 k h6 y hy h1 hc];simp only[Bool.false_eq_true,if_false]
    grind
 exact main ds fun y hy=>Nat.lt_succ_of_le (aL hy)
theorem ny(T:fk ups ch)(hw:∀ y,0≤w y)(hk:k < 6)(hj:j < 6)(h:cg ch k j=true):cS ch w k≤cS ch w j:=by
 have main:∀ l:List Nat,(∀ y∈l,y < 6)→(l.map fun y=>if cg ch y k then w y else 0).sum≤(l.map fun y=>if cg ch y j then w y else 0).sum:=fun l=>by
  induction l with
  | nil=>intro J;simp
  | cons y l ih=>
   intro hl;have hy:=hl y List.mem_cons_self;have:=ih fun z hz=>hl z (List.mem_cons_of_mem _ hz);simp only[List.map_cons,List.sum_cons];have h0:=hw y;cases hc:cg ch y k with
   | true=>
    rw[T.tr y hy k hk j hj hc h];simp only[if_true];omega
   | false=>
    simp only[Bool.false_eq_true,if_false];split <;> omega
 exact main ds fun y hy=>Nat.lt_succ_of_le (aL hy)
variable{x:Nat}
theorem qW(T:fk ups ch)(hw:∀ y,0≤w y)(hk:k < 6)(hx:x < 6)(h1:cg ch x k=false)(h2:cg ch k x=false):cS ch w k+cS ch w x≤fL w:=by
 have main:∀ l:List Nat,(∀ y∈l,y < 6)→(l.map fun y=>if cg ch y k then w y else 0).sum+(l.map fun y=>if cg ch y x then w y else 0).sum≤(l.map w).sum:=fun l=>by
  induction l with
  | nil=>intro J;simp
  | cons y l ih=>
   intro hl;have hy:=hl y List.mem_cons_self;have:=ih fun z hz=>hl z (List.mem_cons_of_mem _ hz);simp only[List.map_cons,List.sum_cons];have h0:=hw y;cases hc:cg ch y k with
   | true=>
    cases hc2:cg ch y x with
    | true=>
     have:=T.dj y hy k hk x hx hc2 hc;rw[h1,h2] at this;exists this
    | false=>
     simp only[Bool.false_eq_true,if_false,if_true];omega
   | false=>
    simp only[Bool.false_eq_true,if_false];split <;> omega
 exact main ds fun y hy=>Nat.lt_succ_of_le (aL hy)
noncomputable def yo(ups:List Nat)(ch:List (List Nat))(w:Nat→Int)(x:Nat):Prop:=2 * (fL w - cS ch w x)≤fL w∧∀ k,k < 6→1≤k→ups.getD k 0=x→2 * cS ch w k≤fL w
noncomputable def eW(ch:List (List Nat))(L w:Nat→Int)(ups:List Nat)(k:Nat):Int:=(L k - L (ups.getD k 0)) * (fL w - 2 * cS ch w k)
theorem wG(c:Int)(p:Nat)(l:List Nat):(l.map fun y=>if y=p then c else 0).sum=(l.count p:Int) * c:=by
 induction l with
 | nil=>exact(Int.zero_mul c).symm
 | cons a l ih=>
  rw[List.map_cons,List.sum_cons,ih,List.count_cons,Int.natCast_add,Int.add_mul,Int.add_comm]
  by_cases e:a=p
  ·rw[if_pos e,if_pos (beq_iff_eq.mpr e)];show _=_+(1:Int) * c;rw[Int.one_mul]
  ·rw[if_neg e,if_neg (fun q=>e (beq_iff_eq.mp q))];show _=_+(0:Int) * c;rw[Int.zero_mul]
theorem q8:∀ p,p < 6→1≤p→bE.count p=1:=by decide
theorem qx(T:fk ups ch):∀ y,y < 6→jz ch L w y=jz ch L w 0+(bE.map fun k=>if cg ch y k then eW ch L w ups k else 0).sum:=by
 intro y
 induction y using Nat.strongRecOn with
 | _ y ih=>
  intro hy;rcases Nat.eq_zero_or_pos y with rfl | h1
  ·have:∀ k∈bE,(if cg ch 0 k then eW ch L w ups k else 0)=0:=fun k hk=>by
    have hk':1≤k∧k≤5:=by simp at hk;omega
    rw[T.c1 k (by omega),decide_eq_false (by omega)];rfl
   rw[List.map_congr_left this];walk_at "s"
  ·have hu:=T.up y hy h1;rw[j8 T hy h1,ih _ hu (by omega)];have hg:(L y - L (ups.getD y 0)) * (fL w - 2 * cS ch w y)=eW ch L w ups y:=rfl;rw[hg]
   have hc:∀ k∈bE,(if cg ch y k then eW ch L w ups k else 0)=(if cg ch (ups.getD y 0) k then eW ch L w ups k else 0)+(if k=y then eW ch L w ups y else 0):=fun k hk=>by
    have hk':1≤k∧k≤5:=by simp at hk;omega
    have e:=T.c y hy k (by omega) h1;rw[e]
    by_cases hky:k=y
    ·subst hky
     have hf:cg ch (ups.getD k 0) k=false:=by
      cases q:cg ch (ups.getD k 0) k with
      | false=>rfl
      | true=>have:=T.le _ (by omega) k hy q;omega
     rw[hf];walk_at "s"
    ·rw[decide_eq_false hky,Bool.false_or,if_neg hky,Int.add_zero]
   rw[List.map_congr_left hc]
   have hs:∀ (l:List Nat) (f g:Nat→Int),(l.map fun k=>f k+g k).sum=(l.map f).sum+(l.map g).sum:=fun l f g=>by
    induction l with
    | nil=>rfl
    | cons a l ih=>simp only[List.map_cons,List.sum_cons];rw[ih];omega
   rw[hs]
   have hone:(bE.map fun k=>if k=y then eW ch L w ups y else 0).sum=eW ch L w ups y:=by
    rw[wG,q8 y (by omega) h1];exact Int.one_mul _
   rw[hone];omega
theorem yq(T:fk ups ch)(hw:∀ y,0≤w y)(hL:∀ k,k < 6→1≤k→L (ups.getD k 0) < L k)(hx:x < 6)(hm:yo ups ch w x):∀ y,y < 6→jz ch L w x≤jz ch L w y:=by
 intro y hy
 have hup:∀ k,k < 6→1≤k→cg ch x k=true→eW ch L w ups k≤0:=fun k hk h1 hc=>by
  have:=ny T hw hx hk hc;have h2:fL w - 2 * cS ch w k≤0:=by have:=hm.1;omega
  have h3:=hL k hk h1;unfold eW;exact Int.mul_nonpos_of_nonneg_of_nonpos (by omega) h2
 have hdn:∀ k,k < 6→1≤k→cg ch x k=false→0≤eW ch L w ups k:=fun k hk h1 hc=>by
  have h2:0≤fL w - 2 * cS ch w k:=by
   cases q:cg ch k x with
   | false=>
    have:=qW T hw hk hx hc q;have:=hm.1;omega
   | true=>
    rcases T.kid k hk x hx q with rfl | ⟨c,c6,c1,cu,cc⟩
    ·rw[T.cc k hk] at hc;exists hc
    ·have:=ny T hw hk c6 cc;have:=hm.2 c c6 c1 cu;omega
  have h3:=hL k hk h1;unfold eW;exact Int.mul_nonneg (by omega) h2
 rw[qx T x hx,qx T y hy];refine Int.add_le_add_left ?_ _
 have main:∀ l:List Nat,(∀ k∈l,k < 6∧1≤k)→(l.map fun k=>if cg ch x k then eW ch L w ups k else 0).sum≤(l.map fun k=>if cg ch y k then eW ch L w ups k else 0).sum:=fun l=>by
  induction l with
  | nil=>intro J;simp
  | cons k l ih=>
   intro hl;refine am (fun h6 h1=>?_) (hl k List.mem_cons_self);have:=ih fun z hz=>hl z (List.mem_cons_of_mem _ hz);simp only[List.map_cons,List.sum_cons];cases hc:cg ch x k with
   | true=>
    have:=hup k h6 h1 hc;simp only[if_true];split <;> omega
   | false=>
    have:=hdn k h6 h1 hc;simp only[Bool.false_eq_true,if_false];split <;> omega
 exact main bE fun k hk=>by simp at hk;omega
theorem yr(T:fk ups ch)(hL:∀ k,k < 6→1≤k→L (ups.getD k 0) < L k)(hx:x < 6)(hm:¬ yo ups ch w x)(hall:cS ch w 0=fL w)(hpos:0≤fL w):∃ y,y < 6∧jz ch L w y < jz ch L w x:=by
 by_cases h:2 * (fL w - cS ch w x)≤fL w
 ·have:∃ k,k < 6∧1≤k∧ups.getD k 0=x∧fL w < 2 * cS ch w k:=by
   apply Classical.byContradiction;intro hn;refine hm ⟨h,fun k h6 h1 hu=>?_⟩;apply Classical.byContradiction;intro hq;exact hn ⟨k,h6,h1,hu,by omega⟩
  revert this;refine yD fun k h6 h1 hu hlt=>?_
  refine⟨k,h6,?_⟩;have e:=j8 (L:=L) (w:=w) T h6 h1;have h3:=hL k h6 h1;have:(L k - L (ups.getD k 0)) * (fL w - 2 * cS ch w k) < 0:=Int.mul_neg_of_pos_of_neg (by omega) (by omega);rw[hu] at e this;omega
 ·have h1:1≤x:=by
   rcases Nat.eq_zero_or_pos x with rfl | q
   ·rw[hall] at h;omega
   ·exact q
  refine⟨ups.getD x 0,by have:=T.up x hx h1;omega,?_⟩;have e:=j8 (L:=L) (w:=w) T hx h1;have h3:=hL x hx h1;have:0 < (L x - L (ups.getD x 0)) * (fL w - 2 * cS ch w x):=Int.mul_pos (by omega) (by omega);omega
theorem v5(T:fk ups ch):cS ch w 0=fL w:=by
 unfold cS fL;congr 1;refine List.map_congr_left fun y hy=>?_;rw[T.c0 y (Nat.lt_succ_of_le (aL hy))];rfl
end
variable{kx:X→Hp→Prop}
noncomputable def bj(cells:List Nat):List Str:=(bn cells).map aU
noncomputable def wu(cells:List Nat):V:=.lst (ds.map fun x=>al (ds.map fun y=>cq (ao cells) x y))
noncomputable def dM(cells:List Nat):List Nat:=[1,2,3,4,5,6,7+cells.sum % 1000]
noncomputable def bq(cells:List Nat)(s:Nat):List Nat:=(ay cells).map fun l=>aE (aQ (l++xT)) s
theorem mv:∀ s∈dM cells,1≤s∧s≤2000:=by unfold dM;exact bQ (by decide) (bQ (by decide) (bQ (by decide) (bQ (by decide) (bQ (by decide) (bQ (by decide) (bQ ⟨Nat.le_add_right_of_le (by decide),Nat.le_trans (Nat.add_le_add_left (Nat.le_of_lt (Nat.mod_lt _ (by decide))) 7) (by decide)⟩ mU))))))
noncomputable def zb(cells:List Nat):V:=.lst ((dM cells).map fun s=>al (bq cells s))
theorem wg(cells:List Nat):(aq cells).map V.str=(bS cells).map fun l=>V.str l.2.1:=by unfold aq;rw[List.map_map];rfl
theorem yB(cells:List Nat):(cC cells).map bR=(bS cells).map fun l=>bR l.2.2:=by unfold cC;rw[List.map_map];rfl
theorem uS(cells:List Nat):(bj cells).map V.str=(bn cells).map fun e=>V.str (aU e):=by unfold bj;rw[List.map_map];rfl
theorem fU(hl5:cells.length=5):(bS cells).length=6:=by unfold bS;rw[List.length_cons,List.length_map,hl5]
theorem sF(x:Nat):∀ l:List Nat,((bA (l.map ah)).any fun y=>PyData.eqv y (ah x).dat)=l.contains x
 | []=>rfl
 | a::l=>by
  rw[List.map_cons];rw[bA];rw[List.any_cons,sF x l,List.contains_cons];congr 1;show PyData.eqv (.int (a:Int)) (.int (x:Int))=_;simp only[PyData.eqv];rw[Bool.eq_iff_iff];walk_at "s";omega
theorem lV(l:List Nat):b9 (l.map ah)=true:=rZ ah (fun J=>rfl) l
theorem rH(f:Nat→α)(h:i≤5):(ds.map f)[i]? =some (f i):=by
 exact n6 rfl rfl rfl rfl rfl rfl i h
theorem dG(f:α→β)(l:List α)(dflt:α)(h:i < l.length):(l.map f)[i]? =some (f (l.getD i dflt)):=by
 rw[List.getElem?_map,gd dflt h];rfl
theorem tD(ok:bI K)(hh:hd.h=true){size:Int}(hs:0 < size)(h:k (.int (ph size lead.cps.toList 0)) H):Pr prog w K (d+1) hd [.str lead,.int size] (fun vs=>call (.ref 329) vs) H k kx:=by
 obtain⟨hb,top⟩:=hd;exists hh;refine bp (ρ0:=[("lead",.str lead),("size",.int size)]) (ok.fn (329,22,["lead","size"]) ∅) rfl rfl fun env hsc=>?_;exact Ex.weaken (tC hsc hs (z3 k) fun ρ=>h) (fun J J J h=>h) (fun J J J h=>h.elim)
noncomputable abbrev jM(cells:List Nat):Str×V:=("kept",.lst ((aq cells).map V.str))
noncomputable abbrev fx(cells:List Nat):Str×V:=("faults",.lst ((cC cells).map bR))
theorem CC(ok2:dz K pm)(hsc:Sc env (aj 30) (own env))(hl5:cells.length=5)(T:fk (aK cells) (ao cells)){kxs:X→ai→Hp→Prop}(h:Ex prog w K (d+9) ⟨true,top⟩ env [cj cells,d6 cells,jF cells,jE cells,iZ cells,gn cells,gm cells,cH cells,iO cells,gi pm cells,gj cells,gF cells,kN cells,jM cells,fx cells] (execs (aH 18) env) [] ks kxs):
  Ex prog w K (d+9) ⟨true,top⟩ env [cj cells,d0 cells,d6 cells,jF cells,jE cells,iZ cells,gn cells,gm cells,cH cells,iO cells,gi pm cells,gj cells,gF cells,kN cells] (execs (aH 17) env) [] ks kxs:=by
 have ok:=ok2.ok;rw[aB 17 (by decide)];refine aw ?_;walk_at "l";refine sk rfl hsc ⋯ ?_;walk_at "2";refine au hsc (aA rfl fun J J=>rfl) ⋯ (ag.skip (ag.skip (ag.skip (ag.skip (ag.skip (ag.skip (ag.skip (ag.skip (ag.skip (ag.skip (ag.skip (ag.skip (ag.skip (ag.skip (ag.nil))))))))))))))) ?_;refine aX ?_;walk_at "mv";refine⟨_,aS rfl,fun cenv Xw hc=>?_⟩;refine bL hc iw (fun l=>V.str l.2.1) ⋯ ⋯ (by rw[fU hl5];decide) (fun l hlm=>?_) fun ρ2=>?_
 ·walk_at "ixn";walk_at "2";exact⟨_,1,V.str l.2.1,.t,rfl,rfl,Nat.le_of_ble_eq_true rfl,rfl,rfl⟩
 walk_at "mv";refine au hsc (aA rfl fun J J=>rfl) ⋯ (ag.skip (ag.skip (ag.skip (ag.skip (ag.skip (ag.skip (ag.skip (ag.skip (ag.skip (ag.skip (ag.skip (ag.skip (ag.skip (ag.skip (ag.nil))))))))))))))) ?_;refine aX ?_;walk_at "mv";refine⟨_,aS rfl,fun cenv Xw hc=>?_⟩;refine bL hc iw (fun l=>bR l.2.2) ⋯ ⋯ (by rw[fU hl5];decide) (fun l hlm=>?_) fun ρ2=>?_
 ·walk_at "ixn";walk_at "2";exact⟨_,2,bR l.2.2,.t,rfl,rfl,Nat.le_of_ble_eq_true rfl,rfl,rfl⟩
 walk_at "mv";refine⟨Nat.le_of_ble_eq_true rfl,_,_,rfl,?_⟩;rw[←wg,←yB];apply ad hsc ⋯
 ·walk_at "d"
 apply ad hsc ⋯
 ·walk_at "d"
 refine mT ?_;refine fB (fun p hm=>((.cons₂ _ (.cons _ (.cons₂ _ (.cons₂ _ (.cons₂ _ (.cons₂ _ (.cons₂ _ (.cons₂ _ (.cons₂ _ (.cons₂ _ (.cons₂ _ (.cons₂ _ (.cons₂ _ (.cons₂ _ (.cons₂ _ (.cons₂ _ .slnil)))))))))))))))):List.Sublist _ _).subset hm) ?_;exact h
noncomputable abbrev mW(cells:List Nat):Str×V:=("tails",.lst ((bj cells).map V.str))
theorem CD(ok2:dz K pm)(hsc:Sc env (aj 30) (own env))(hl5:cells.length=5)(T:fk (aK cells) (ao cells)){kxs:X→ai→Hp→Prop}(h:Ex prog w K (d+9) ⟨true,top⟩ env [cj cells,jF cells,jE cells,iZ cells,gn cells,gm cells,cH cells,iO cells,gi pm cells,gj cells,gF cells,kN cells,jM cells,fx cells,mW cells] (execs (aH 19) env) [] ks kxs):
  Ex prog w K (d+9) ⟨true,top⟩ env [cj cells,d6 cells,jF cells,jE cells,iZ cells,gn cells,gm cells,cH cells,iO cells,gi pm cells,gj cells,gF cells,kN cells,jM cells,fx cells] (execs (aH 18) env) [] ks kxs:=by
 have ok:=ok2.ok;rw[aB 18 (by decide)];refine aw ?_;walk_at "l";refine aN hsc ⋯ ?_;refine au hsc (aA rfl fun J J=>rfl) ⋯ (ag.skip (ag.skip (ag.skip (ag.skip (ag.skip (ag.skip (ag.skip (ag.skip (ag.skip (ag.skip (ag.skip (ag.skip (ag.skip (ag.skip (ag.skip (ag.nil)))))))))))))))) ?_;refine aX ?_;walk_at "mv";refine⟨_,aS rfl,fun cenv Xw hc=>?_⟩;refine bL hc ah (fun e=>V.str (aU e)) ⋯ ⋯ (by rw[g9,hl5];decide) (fun e he=>?_) fun ρ2=>?_
 ·walk_at "mv";walk_at "4";refine lc (c:=3) rfl (by decide) ?_;walk_at "mv";refine wJ (c:=2) rfl ?_;walk_at "mv";have e0:(⟨#[]⟩:Str)=Str.ofString "":=by walk_at "k"
  unfold aU
  by_cases q:e % 3=2
  ·rw[decide_eq_true q,if_pos q];refine fP ?_;exact⟨rfl,rfl⟩
  ·rw[decide_eq_false q,if_neg q,e0];refine fP ?_;exact⟨rfl,rfl⟩
 rw[←uS];apply ad hsc ⋯
 ·walk_at "d"
 refine fB (fun p hm=>((.cons₂ _ (.cons _ (.cons₂ _ (.cons₂ _ (.cons₂ _ (.cons₂ _ (.cons₂ _ (.cons₂ _ (.cons₂ _ (.cons₂ _ (.cons₂ _ (.cons₂ _ (.cons₂ _ (.cons₂ _ (.cons₂ _ (.cons₂ _ .slnil)))))))))))))))):List.Sublist _ _).subset hm) ?_;exact h
noncomputable abbrev tG(cells:List Nat):Str×V:=("meets",wu cells)
theorem CE(ok2:dz K pm)(hsc:Sc env (aj 30) (own env))(hl5:cells.length=5)(T:fk (aK cells) (ao cells)){kxs:X→ai→Hp→Prop}(h:Ex prog w K (d+9) ⟨true,top⟩ env [cj cells,jF cells,jE cells,iZ cells,gn cells,cH cells,iO cells,gi pm cells,gj cells,gF cells,kN cells,jM cells,fx cells,mW cells,tG cells] (execs (aH 20) env) [] ks kxs):
  Ex prog w K (d+9) ⟨true,top⟩ env [cj cells,jF cells,jE cells,iZ cells,gn cells,gm cells,cH cells,iO cells,gi pm cells,gj cells,gF cells,kN cells,jM cells,fx cells,mW cells] (execs (aH 19) env) [] ks kxs:=by
 have ok:=ok2.ok;rw[aB 19 (by decide)];refine aw ?_;walk_at "l";refine aN hsc ⋯ ?_;refine au hsc (aA rfl fun J J=>rfl) ⋯ (ag.skip (ag.skip (ag.skip (ag.skip (ag.skip (ag.take ⋯ (ag.skip (ag.skip (ag.skip (ag.skip (ag.skip (ag.skip (ag.skip (ag.skip (ag.skip (ag.nil)))))))))))))))) ?_;refine cp ok hsc ⋯ aJ rfl rfl ?_
 repeat walk_at "mv"
 refine⟨_,bf rfl ⟨by decide,by decide⟩,fun cenv Xw hc=>?_⟩;refine bL (xs:=ds) hc ah (fun x=>al (ds.map fun y=>cq (ao cells) x y)) ⋯ ⋯ (by decide) (fun x hx=>?_) fun ρ2=>?_
 ·have hx5:x≤5:=aL hx;refine au hc (aA rfl fun J J=>rfl) ⋯ (ag.take ⋯ (ag.take ⋯ ag.nil)) ?_;refine cp ok hc ⋯ aJ rfl rfl ?_
  repeat walk_at "mv"
  refine⟨_,bf rfl ⟨by decide,by decide⟩,fun cenv2 Xw2 hc2=>?_⟩;refine bL (xs:=ds) hc2 ah (fun y=>ah (cq (ao cells) x y)) ⋯ ⋯ (by decide) (fun y hy=>?_) fun ρ3=>?_
  ·have hy5:y≤5:=aL hy;have hclx:=T.cll x (by omega);walk_at "ixn";refine au hc2 (aA rfl fun J J=>rfl) ⋯ (ag.take ⋯ (ag.skip (ag.take ⋯ ag.nil))) ?_;refine aX ?_;walk_at "ixn";walk_at "2";refine⟨_,x,al ((ao cells).getD x []),.l,rfl,dG al _ [] (by rw[T.cl];omega),by rw[List.length_map,T.cl];decide,?_⟩;refine⟨_,aS rfl,fun cenv3 Xw3 hc3=>?_⟩;refine nC hc3 ah (fun one=>((ao cells).getD y []).contains one) ah ⋯ ⋯ (by omega) (fun one hone=>?_) (fun one hone hp=>?_) fun ρ4=>?_
   ·refine cY (bJ rfl ?_);walk_at "mv";walk_at "ixn";walk_at "2";refine⟨_,y,al ((ao cells).getD y []),.l,rfl,dG al _ [] (by rw[T.cl];omega),by rw[List.length_map,T.cl];decide,?_⟩;refine uB rfl (lV _) (Nat.le_of_ble_eq_true rfl) ?_;refine fh ?_;rw[sF];exact⟨rfl,rfl⟩
   ·walk_at "mv";exact⟨rfl,rfl⟩
   ·walk_at "mv";have hne:=(T.m3 x (by omega) y (by omega)).2;refine⟨_,0,ah (cq (ao cells) x y),.l,rfl,?_,?_,rfl,rfl⟩
    ·unfold cq;cases q:(((ao cells).getD x []).filter fun one=>((ao cells).getD y []).contains one) with
     | nil=>exact absurd q hne
     | cons a l=>rfl
    ·rw[List.length_map];exact Nat.le_trans (List.length_filter_le _ _) (by omega)
  ·exact⟨rfl,rfl⟩
 apply ad hsc ⋯
 ·walk_at "d"
 refine fB (fun p hm=>((.cons₂ _ (.cons₂ _ (.cons₂ _ (.cons₂ _ (.cons₂ _ (.cons _ (.cons₂ _ (.cons₂ _ (.cons₂ _ (.cons₂ _ (.cons₂ _ (.cons₂ _ (.cons₂ _ (.cons₂ _ (.cons₂ _ (.cons₂ _ .slnil)))))))))))))))):List.Sublist _ _).subset hm) ?_;exact h
noncomputable abbrev xx(cells:List Nat):Str×V:=("sizes",al (dM cells))
theorem CF(ok2:dz K pm)(hsc:Sc env (aj 30) (own env))(hl5:cells.length=5)(T:fk (aK cells) (ao cells)){kxs:X→ai→Hp→Prop}(h:Ex prog w K (d+9) ⟨true,top⟩ env [jF cells,jE cells,iZ cells,gn cells,cH cells,iO cells,gi pm cells,gj cells,gF cells,kN cells,jM cells,fx cells,mW cells,tG cells,xx cells] (execs (aH 21) env) [] ks kxs):
  Ex prog w K (d+9) ⟨true,top⟩ env [cj cells,jF cells,jE cells,iZ cells,gn cells,cH cells,iO cells,gi pm cells,gj cells,gF cells,kN cells,jM cells,fx cells,mW cells,tG cells] (execs (aH 20) env) [] ks kxs:=by
 have ok:=ok2.ok;rw[aB 20 (by decide)];refine aw ?_;walk_at "l";walk_at "asg"
 repeat walk_at "mv"
 refine lc (c:=1000) rfl (by decide) ?_;refine jZ ?_
 repeat walk_at "mv"
 have e:((7:Int)+((cells.sum % 1000:Nat):Int))=((7+cells.sum % 1000:Nat):Int):=by omega
 rw[e];apply ad hsc ⋯ (u:=al (dM cells))
 ·walk_at "d"
 refine fB (fun p hm=>((.cons _ (.cons₂ _ (.cons₂ _ (.cons₂ _ (.cons₂ _ (.cons₂ _ (.cons₂ _ (.cons₂ _ (.cons₂ _ (.cons₂ _ (.cons₂ _ (.cons₂ _ (.cons₂ _ (.cons₂ _ (.cons₂ _ (.cons₂ _ .slnil)))))))))))))))):List.Sublist _ _).subset hm) ?_;exact h
noncomputable abbrev xy(cells:List Nat):Str×V:=("columns",zb cells)
theorem CG(ok2:dz K pm)(hsc:Sc env (aj 30) (own env))(hl5:cells.length=5)(T:fk (aK cells) (ao cells)){kxs:X→ai→Hp→Prop}(h:Ex prog w K (d+9) ⟨true,top⟩ env [jE cells,iZ cells,gn cells,cH cells,iO cells,gi pm cells,gj cells,gF cells,kN cells,jM cells,fx cells,mW cells,tG cells,xx cells,xy cells] (execs (aH 22) env) [] ks kxs):
  Ex prog w K (d+9) ⟨true,top⟩ env [jF cells,jE cells,iZ cells,gn cells,cH cells,iO cells,gi pm cells,gj cells,gF cells,kN cells,jM cells,fx cells,mW cells,tG cells,xx cells] (execs (aH 21) env) [] ks kxs:=by
 have ok:=ok2.ok;rw[aB 21 (by decide)];refine aw ?_;walk_at "l";refine aN hsc ⋯ ?_;refine au hsc (aA rfl fun J J=>rfl) ⋯ (ag.take ⋯ (ag.skip (ag.skip (ag.skip (ag.skip (ag.skip (ag.skip (ag.skip (ag.skip (ag.skip (ag.skip (ag.skip (ag.skip (ag.skip (ag.skip (ag.nil)))))))))))))))) ?_;refine aX ?_;walk_at "mv";refine⟨_,aS rfl,fun cenv Xw hc=>?_⟩;refine bL hc ah (fun s=>al (bq cells s)) ⋯ ⋯ (Nat.le_of_ble_eq_true rfl) (fun s hs=>?_) fun ρ2=>?_
 ·have hs1:=(mv s hs).1;refine au hc (aA rfl fun J J=>rfl) ⋯ (ag.take ⋯ (ag.skip ag.nil)) ?_;refine aX ?_;walk_at "mv";refine⟨_,aS rfl,fun cenv2 Xw2 hc2=>?_⟩;refine bL hc2 V.str (fun l=>ah (aE (aQ (l++xT)) s)) ⋯ ⋯ (by rw[dE,hl5];decide) (fun l hl=>?_) fun ρ3=>?_
  ·refine eV ok hc2 (x:="_law_column") (a:=329) ∅ (ok.fn (329,22,["lead","size"]) ∅).obj ⋯ ⋯ rfl rfl ?_
   repeat walk_at "mv"
   refine tD ok rfl (by omega) ?_;have:=yk (pK hl) hs1;unfold mQ at this;rw[iH] at this;rw[←this];exact⟨rfl,rfl⟩
  ·refine⟨?_,rfl⟩;unfold bq;rw[al,List.map_map];rfl
 apply ad hsc ⋯
 ·walk_at "d"
 refine fB (fun p hm=>((.cons _ (.cons₂ _ (.cons₂ _ (.cons₂ _ (.cons₂ _ (.cons₂ _ (.cons₂ _ (.cons₂ _ (.cons₂ _ (.cons₂ _ (.cons₂ _ (.cons₂ _ (.cons₂ _ (.cons₂ _ (.cons₂ _ (.cons₂ _ .slnil)))))))))))))))):List.Sublist _ _).subset hm) ?_;exact h
variable{kx:X→Hp→Prop}
theorem rY{g1 g2:PySem.Comprehension}(h0:g1.is_async=0∧g2.is_async=0)(h:∀ env x,foldedSetIterable g1.iter env x=pure x)(h2:∀ env x,foldedSetIterable g2.iter env x=pure x):∀ g'∈[g1,g2],g'.is_async=0∧∀ env x,foldedSetIterable g'.iter env x=pure x:=fun g' h'=>by
 rcases List.mem_cons.mp h' with rfl | h'
 ·exact⟨h0.1,h⟩
 ·rw[List.mem_singleton.mp h'];exact⟨h0.2,h2⟩
theorem pO{Xw:List Addr}(hsc:Sc cenv scope Xw){iter1 iter2:PySem.Expr}{x:Str}{px py:Pos}{ks:List V→ai→Hp→Prop}(gv:α→V)(gw:β→V)(p:α→Bool)(G:α→List β)(f:α→β→V)(hx:aG scope x=true)(hy:aG scope y=true)(hx0:ρ0.all (fun p=>p.1 != x)=true)(hy0:ρ0.all (fun p=>p.1 != y)=true)(hxy:(x != y)=true){xs:List α}(hl:(xs.flatMap fun a=>if p a then (G a).map (f a) else []).length≤1000)(hc:∀ a∈xs,Eb prog w K d hd cenv ((x,gv a)::ρ0) (gW ifs cenv) H (fun b H3=>b=p a∧H3=H) (fun J J=>False))(hi:∀ a∈xs,Ie prog w K d hd cenv ((x,gv a)::ρ0) (.Name y py) (eval iter2 cenv) H (fun l2 H3=>l2=(G a).map gw∧H3=H) (fun J J=>False))(hs:∀ a∈xs,∀ b∈G a,Ev prog w K d hd cenv ((y,gw b)::(x,gv a)::ρ0) (eval elt cenv) H (fun v H3=>v=f a b∧H3=H) (fun J J=>False))(hk:∀ ρ,ks (xs.flatMap fun a=>if p a then (G a).map (f a) else []) ρ H):
  eR prog w K d hd cenv Xw ⟨.Name x px,iter1,ifs,0⟩ (qD prog w K d hd cenv Xw elt [⟨.Name y py,iter2,[],0⟩]) (xs.map gv) ks [] ρ0 H:=by
 have grow:∀ (ρ0:ai) (z:Str) (u:V) (ρ:ai),ρ0.all (fun p=>p.1 != z)=true→(∀ q∈ρ0,q∈ρ)→ba z u ρ ((z,u)::ρ0):=fun ρ0 z u ρ h0 hR q hq=>by
  rcases List.mem_cons.mp hq with e | hq
  ·exact .inl e
  ·exact .inr ⟨hR q hq,by simpa using (List.all_eq_true.mp h0) q hq⟩
 refine nD (R:=fun ρ=>∀ q∈ρ0,q∈ρ) (p:=p) (F:=fun a=>(G a).map (f a)) xs [] ρ0 (fun J h=>h) (by rw[List.length_nil,Nat.zero_add];exact hl) (fun a ha ρ hR=>?_) fun ρ J=>?_
 ·refine ad hsc hx (grow _ _ _ _ hx0 hR) ?_;intro A σ Z s Q E hA S F hQ hE;refine hc a ha A σ Z s Q E hA S F (fun b s' σ' H' g' S' hk2=>hQ b s' σ' H' g' S' ?_) hE
  revert hk2;refine am fun q t=>?_;obtain rfl:=q;obtain rfl:=t
  refine⟨rfl,rfl,fun hb acc' K' hl' hK'=>?_,fun q hq=>List.mem_cons_of_mem _ hq⟩;intro A σ Z s Q E hA S F hQ hE;refine hi a ha A σ Z s Q E hA S F (fun v σ1 s1 H1 l s₂ g1 S1 hk3 ik=>hQ v σ1 s1 H1 l s₂ g1 S1 ?_ ik) hE
  revert hk3;refine am fun e1 e2=>?_
  rw[e1,e2];have hy1:((x,gv a)::ρ0).all (fun p=>p.1 != y)=true:=by rw[List.all_cons,hy0,Bool.and_true];exact hxy
  have fl:∀ l:List β,(l.flatMap fun b=>if (fun J:β=>true) b then [f a b] else [])=l.map (f a):=fun l=>by
   induction l with
   | nil=>rfl
   | cons b l ih=>rw[List.flatMap_cons,ih];rfl
  refine nD (R:=fun ρ=>∀ q∈(x,gv a)::ρ0,q∈ρ) (p:=fun J=>true) (F:=fun b=>[f a b]) (G a) acc' _ (fun J h=>h) (by rw[fl];exact hl') (fun b hb ρ2 hR2=>?_) fun ρ2 hR2=>?_
  ·refine ad hsc hy (grow _ _ _ _ hy1 hR2) (dN ⟨rfl,rfl,fun J acc2 K2 hl2 hK2=>?_,fun q hq=>List.mem_cons_of_mem _ hq⟩);refine And.intro (by simp at hl2;omega) ?_;intro A σ Z s Q E hA S F hQ hE;refine hs a ha b hb A σ Z s Q E hA S F (fun v s' σ' x H' g' S' hx hk3=>hQ v s' σ' x H' g' S' hx ?_) hE
   revert hk3;refine am fun q t=>?_;obtain rfl:=q;obtain rfl:=t
   exact hK2 _ fun q hq=>List.mem_cons_of_mem _ hq
  ·rw[fl];exact hK' _ fun q hq=>hR2 q (List.mem_cons_of_mem _ hq)
 ·rw[List.nil_append];exact hk ρ
noncomputable def wN(cells:List Nat)(y:Nat):Nat:=((aq cells).getD y ⟨#[]⟩++(bj cells).getD y ⟨#[]⟩).length
noncomputable def jl(cells:List Nat)(s p:Nat):Int:=(((bq cells s).getD p 0:Nat):Int)
noncomputable def wI(cells:List Nat)(y:Nat):Int:=((wN cells y:Nat):Int)
noncomputable def fj(cells:List Nat)(s x:Nat):Int:=jz (ao cells) (jl cells s) (wI cells) x
theorem cU(hl5:cells.length=5):(aq cells).length=6:=by unfold aq;rw[List.length_map,fU hl5]
theorem eQ(hl5:cells.length=5):(bj cells).length=6:=by unfold bj;rw[List.length_map,g9,hl5]
theorem dC(hl5:cells.length=5)(s:Nat):(bq cells s).length=6:=by unfold bq;rw[List.length_map,dE,hl5]
theorem zG(y:Nat):wN cells y≤101:=by
 unfold wN;have ha:∀ a b:Str,(a++b).length=a.length+b.length:=fun a b=>Array.size_append ..;rw[ha];have:=kZ cells y;have:=mB (bn cells) y;unfold bj;omega
variable{s:Nat}
theorem lB(hl5:cells.length=5)(hp:p≤5):((bq cells s).map ah)[p]? =some (V.int (jl cells s p)):=dG ah _ 0 (by rw[dC hl5];omega)
theorem fE{l:List Nat}(h:l.length=6):(l.map ah).length≤1000:=by rw[List.length_map,h];decide
noncomputable def y5(cells:List Nat):Prop:=∀ s∈dM cells,∃ m,m∈ds.map (fj cells s)∧(∀ x∈ds.map (fj cells s),m≤x)∧(ds.filter fun x=>fj cells s x==m)=yn cells
theorem nP(l:List Nat):(al l).isDat=true:=lV l
theorem me(l:List Nat):(al l).dat.depth≤30:=Nat.le_trans (fw (n:=1) fun a ha=>by
 refine ab (fun x J t=>?_) (List.mem_map.mp ha);obtain rfl:=t;exact Nat.le_of_ble_eq_true rfl) (by decide)
theorem CI(ok2:dz K pm)(hsc:Sc env (aj 30) (own env))(hl5:cells.length=5)(T:fk (aK cells) (ao cells))(hmid:y5 cells){kxs:X→ai→Hp→Prop}(h:Ex prog w K (d+9) ⟨true,top⟩ env [iZ cells,gn cells,cH cells,iO cells,gi pm cells,gj cells,gF cells,jM cells,fx cells,mW cells,xy cells] (execs (aH 23) env) [] ks kxs):
  Ex prog w K (d+9) ⟨true,top⟩ env [jE cells,iZ cells,gn cells,cH cells,iO cells,gi pm cells,gj cells,gF cells,kN cells,jM cells,fx cells,mW cells,tG cells,xx cells,xy cells] (execs (aH 22) env) [] ks kxs:=by
 have ok:=ok2.ok;rw[aB 22 (by decide)];refine aw ?_;walk_at "l";refine dk (fun J=>rfl) ?_;refine cp ok hsc ⋯ zX rfl rfl ?_;walk_at "5";refine⟨_,AJ rfl,?_⟩;refine bG (fun i ρ H'=>H'=[]∧ρ=[(.ofString "spaces",.lst ((ay cells).map fun l=>y4 (l++xT))),(.ofString "told",.lst ((iy cells).map jv)),(.ofString "ups",al (aK cells)),(.ofString "head",hsF (gM cells)),(.ofString "refused",.lst (bW (cC cells) 5)),(.ofString "things",ti pm cells),(.ofString "given",qV cells),(.ofString "pieces",f6 cells),(.ofString "middle",al (yn cells)),(.ofString "kept",.lst ((aq cells).map V.str)),(.ofString "faults",.lst ((cC cells).map bR)),(.ofString "tails",.lst ((bj cells).map V.str)),(.ofString "meets",wu cells),(.ofString "sizes",al (dM cells)),(.ofString "columns",zb cells)]) ?_ ⟨rfl,rfl⟩ ?_
 ·rintro i u ρ H1 hu ⟨rfl,rfl⟩;refine ee (fun u1 u2 hu1 hu2 t=>?_) (mP _ _ _ _ hu);obtain rfl:=t;rw[List.getElem?_map] at hu1 hu2;refine ab (fun s hs0 t=>?_) (Option.map_eq_some_iff.mp hu1);obtain rfl:=t;rw[hs0] at hu2;exists hu2;have hsm:s∈dM cells:=List.mem_of_getElem? hs0;have hs1:=(mv s hsm).1;have hs2:=(mv s hsm).2;refine fo (fun m hm1 hm2 hm3=>?_) (hmid s hsm);refine de rfl (fun J h=>h) rfl rfl rfl ?_;apply ad hsc ⋯
  ·walk_at "d"
  apply ad hsc ⋯
  ·walk_at "d"
  refine mT ?_;walk_at "mv";refine aN hsc ⋯ ?_;refine au hsc (aA rfl fun J J=>rfl) ⋯ (ag.skip (ag.skip (ag.skip (ag.skip (ag.skip (ag.skip (ag.skip (ag.skip (ag.skip (ag.skip (ag.skip (ag.skip (ag.skip (ag.skip (ag.skip (ag.take ⋯ (ag.skip (ag.nil)))))))))))))))))) ?_;refine aX ?_;walk_at "mv";refine⟨_,aS rfl,fun cenv Xw hc=>?_⟩;obtain⟨y3,hB3⟩:=nF;have hF3:=(ok.wsF (127,3,["self","tabsize"]) ∅).at
  refine bL hc (fun l=>y4 (l++xT)) (fun l=>ah (aE (aQ (l++xT)) s)) ⋯ ⋯ (by rw[dE,hl5];decide) (fun l hl=>?_) fun ρ2=>?_
  ·refine bZ rfl rfl rfl hF3.2 ?_;walk_at "mv";refine⟨nX ok ∅ hF3.1 hB3 ∅,?_⟩;walk_at "3";refine iM ok rfl hs1 hs2 ?_ ⟨rfl,rfl⟩;have:=tm (l++xT);have:=k8 hl5 hl;omega
  rw[show V.lst ((ay cells).map fun l=>ah (aE (aQ (l++xT)) s))=al (bq cells s) from by unfold bq;rw[al,List.map_map];rfl];apply ad hsc ⋯
  ·walk_at "d"
  walk_at "mv";refine aN hsc ⋯ ?_;refine au hsc (aA rfl fun J J=>rfl) ⋯ (ag.skip (ag.skip (ag.skip (ag.skip (ag.skip (ag.skip (ag.skip (ag.skip (ag.skip (ag.take ⋯ (ag.skip (ag.take ⋯ (ag.take ⋯ (ag.skip (ag.skip (ag.skip (ag.skip (ag.take ⋯ (ag.nil))))))))))))))))))) ?_;refine cp ok hsc ⋯ aJ rfl rfl ?_
  repeat walk_at "mv"
  refine⟨_,bf rfl ⟨by decide,by decide⟩,fun cenv Xw hc=>?_⟩;refine bL (xs:=ds) hc ah (fun x=>V.int (fj cells s x)) ⋯ ⋯ (by decide) (fun x hx=>?_) fun ρ2=>?_
  ·have hx5:x≤5:=aL hx;refine cQ ok hc ⋯ qG rfl rfl ?_;walk_at "mv";refine au hc (aA rfl fun J J=>rfl) ⋯ (ag.take ⋯ (ag.take ⋯ (ag.take ⋯ (ag.take ⋯ (ag.take ⋯ ag.nil))))) ?_;refine cp ok hc ⋯ aJ rfl rfl ?_
   repeat walk_at "mv"
   refine⟨_,bf rfl ⟨by decide,by decide⟩,fun cenv2 Xw2 hc2=>?_⟩;refine bL (xs:=ds) hc2 ah (fun y=>V.int (rT (ao cells) (jl cells s) (wI cells) x y)) ⋯ ⋯ (by decide) (fun y hy=>?_) fun ρ3=>?_
   ·have hy5:y≤5:=aL hy;walk_at "mv";refine cQ ok hc2 ⋯ eA rfl rfl ?_;walk_at "2";walk_at "ixn";walk_at "2";refine⟨_,y,V.str ((aq cells).getD y ⟨#[]⟩),.l,rfl,dG V.str _ _ (by rw[cU hl5];omega),by rw[List.length_map,cU hl5];decide,?_⟩;walk_at "ixn";walk_at "2";refine⟨_,y,V.str ((bj cells).getD y ⟨#[]⟩),.l,rfl,dG V.str _ _ (by rw[eQ hl5];omega),by rw[List.length_map,eQ hl5];decide,?_⟩
    refine j0 (by
     have:=kZ cells y;have:=mB (bn cells) y;have e20:200≤sizeLine:=by decide
     unfold bj;omega) ?_
    walk_at "mv";refine dI (by have:=zG (cells:=cells) y;unfold wN at this;omega) ?_;walk_at "2";walk_at "ixn";walk_at "2";refine⟨_,x,V.int (jl cells s x),.l,rfl,lB hl5 hx5,fE (dC hl5 s),?_⟩;walk_at "ixn";walk_at "2";refine⟨_,y,V.int (jl cells s y),.l,rfl,lB hl5 hy5,fE (dC hl5 s),?_⟩;refine jZ ?_;walk_at "2";walk_at "ixn";walk_at "mv";walk_at "ixn";walk_at "ixn";walk_at "2";refine⟨_,x,al (ds.map fun y=>cq (ao cells) x y),.l,rfl,rH (fun x=>al (ds.map fun y=>cq (ao cells) x y)) hx5,Nat.le_of_ble_eq_true rfl,?_⟩;walk_at "mv";refine⟨_,y,ah (cq (ao cells) x y),.l,rfl,by rw[List.map_map];exact rH (ah∘fun y=>cq (ao cells) x y) hy5,Nat.le_of_ble_eq_true rfl,?_⟩;refine⟨_,cq (ao cells) x y,V.int (jl cells s (cq (ao cells) x y)),.l,rfl,lB hl5 (Nat.le_of_lt_succ (T.m3 x (by omega) y (by omega)).1),fE (dC hl5 s),?_⟩;refine oR (IntMulOk.of_left (by decide)) ?_;refine rA ?_;refine oR (IntMulOk.of_left (lS (by have:=zG (cells:=cells) y;unfold wN at this;omega))) ?_;exact⟨rfl,rfl⟩
   ·walk_at "mv";rw[show ds.map (fun y=>V.int (rT (ao cells) (jl cells s) (wI cells) x y))=(ds.map (rT (ao cells) (jl cells s) (wI cells) x)).map V.int from by rw[List.map_map];rfl];refine rB rfl ?_;exact⟨rfl,rfl⟩
  apply ad hsc ⋯
  ·walk_at "d"
  walk_at "2";refine vy (ib ?_);refine bJ rfl ?_;refine au hsc (aA rfl fun J J=>rfl) ⋯ (ag.skip (ag.skip (ag.skip (ag.skip (ag.skip (ag.skip (ag.skip (ag.skip (ag.skip (ag.skip (ag.skip (ag.skip (ag.skip (ag.skip (ag.skip (ag.skip (ag.skip (ag.skip (ag.take ⋯ (ag.nil)))))))))))))))))))) ?_;refine cp ok hsc ⋯ aJ rfl rfl ?_
  repeat walk_at "mv"
  refine⟨_,bf rfl ⟨by decide,by decide⟩,fun cenv Xw hc=>?_⟩;refine nC (xs:=ds) hc ah (fun x=>fj cells s x==m) ah ⋯ ⋯ (by decide) (fun x hx=>?_) (fun x hx hp=>?_) fun ρ2=>?_
  ·have hx5:x≤5:=aL hx;refine cY (bJ rfl ?_);walk_at "ixn";walk_at "2";refine⟨_,x,V.int (fj cells s x),.l,rfl,rH (fun x=>V.int (fj cells s x)) hx5,Nat.le_of_ble_eq_true rfl,?_⟩;refine cQ ok hc ⋯ zW rfl rfl ?_;walk_at "3";rw[show ds.map (fun x=>V.int (fj cells s x))=(ds.map (fj cells s)).map V.int from by rw[List.map_map];rfl];refine Bg rfl (by simp[ds]) hm1 hm2 ?_;refine wK ?_;refine fh ?_;exact⟨rfl,rfl⟩
  ·walk_at "mv";exact⟨rfl,rfl⟩
  rw[hm3];walk_at "mv";refine dJ (nP _) (me _) ?_;walk_at "mv"
  try dsimp only
  refine ib ?_;refine bJ rfl ?_;walk_at "2";refine dJ (nP _) (me _) ?_;walk_at "mv"
  try dsimp only
  refine iQ ?_
  try dsimp only
  rw[show(PySem.BoolOp.Or==PySem.BoolOp.And)=false from rfl];walk_at "2";exact⟨_,fun p hm=>((.cons₂ _ (.cons₂ _ (.cons₂ _ (.cons₂ _ (.cons₂ _ (.cons₂ _ (.cons₂ _ (.cons₂ _ (.cons₂ _ (.cons₂ _ (.cons₂ _ (.cons₂ _ (.cons₂ _ (.cons₂ _ (.cons₂ _ (.cons _ (.cons _ (.cons _ (.cons _ .slnil))))))))))))))))))):List.Sublist _ _).subset hm,rfl,rfl⟩
 ·rintro ρ' H' ⟨rfl,rfl⟩;refine fB (fun p hm=>((.cons _ (.cons₂ _ (.cons₂ _ (.cons₂ _ (.cons₂ _ (.cons₂ _ (.cons₂ _ (.cons₂ _ (.cons _ (.cons₂ _ (.cons₂ _ (.cons₂ _ (.cons _ (.cons _ (.cons₂ _ .slnil))))))))))))))):List.Sublist _ _).subset hm) ?_;exact h
variable{kx:X→Hp→Prop}
theorem kF(cells:List Nat)(p:Nat):(co cells p).length=p:=by unfold co;rw[List.length_map,List.length_range]
theorem yU(hp:p≤5):((iy cells).map jv)[p]? =some (jv (co cells p)):=by
 exact n6 rfl rfl rfl rfl rfl rfl p hp
theorem CJ(ok2:dz K pm)(hsc:Sc env (aj 30) (own env))(hl5:cells.length=5)(T:fk (aK cells) (ao cells))(htd:∀ p,p≤5→∀ o,o < p→(co cells p).getD o false=(dM cells).all fun s=>decide ((bq cells s).getD o 0 < (bq cells s).getD p 0)){kxs:X→ai→Hp→Prop}(h:Ex prog w K (d+9) ⟨true,top⟩ env [gn cells,cH cells,iO cells,gi pm cells,gj cells,gF cells,jM cells,fx cells,mW cells] (execs (aH 24) env) [] ks kxs):
  Ex prog w K (d+9) ⟨true,top⟩ env [iZ cells,gn cells,cH cells,iO cells,gi pm cells,gj cells,gF cells,jM cells,fx cells,mW cells,xy cells] (execs (aH 23) env) [] ks kxs:=by
 have ok:=ok2.ok;rw[aB 23 (by decide)];refine aw ?_;walk_at "l";walk_at "mv";refine bJ rfl ?_;refine au hsc (rY ⟨rfl,rfl⟩ (fun J J=>rfl) fun J J=>rfl) ⋯ (ag.take ⋯ (ag.skip (ag.skip (ag.skip (ag.skip (ag.skip (ag.skip (ag.skip (ag.skip (ag.skip (ag.take ⋯ (ag.nil)))))))))))) ?_;refine cp ok hsc ⋯ aJ rfl rfl ?_
 repeat walk_at "mv"
 refine⟨_,bf rfl ⟨by decide,by decide⟩,fun cenv Xw hc=>?_⟩;refine pO (xs:=ds) hc ah ah (fun J=>true) (fun p=>List.range p) (fun p o=>V.bool true) ⋯ ⋯ ⋯ ⋯ ⋯ (Nat.le_of_ble_eq_true rfl) (fun p hp=>dN ⟨rfl,rfl⟩) (fun p hp=>?_) (fun p hp o ho=>?_) fun ρ2=>?_
 ·have hp5:p≤5:=aL hp;refine cp ok hc ⋯ aJ rfl rfl ?_
  repeat walk_at "mv"
  refine⟨_,bf rfl ⟨by omega,by omega⟩,?_,rfl⟩;rw[Int.toNat_natCast]
 ·have hp5:p≤5:=aL hp;have hop:o < p:=List.mem_range.mp ho;have hrow:=htd p hp5 o hop;refine qO rfl ?_;walk_at "ixn";walk_at "ixn";walk_at "2";refine⟨_,p,jv (co cells p),.l,rfl,yU hp5,Nat.le_of_ble_eq_true rfl,?_⟩;walk_at "mv";refine⟨_,o,V.bool ((co cells p).getD o false),.l,rfl,dG V.bool _ false (by rw[kF];exact hop),by rw[List.length_map,kF];omega,?_⟩;refine cQ ok hc ⋯ vc rfl rfl ?_;walk_at "mv";refine au hc (aA rfl fun J J=>rfl) ⋯ (ag.take ⋯ (ag.take ⋯ (ag.skip (ag.skip ag.nil)))) ?_;refine aX ?_;walk_at "mv";refine⟨_,aS rfl,fun cenv2 Xw2 hc2=>?_⟩;refine bL hc2 (fun s=>al (bq cells s)) (fun s=>V.bool (decide ((bq cells s).getD o 0 < (bq cells s).getD p 0))) ⋯ ⋯ (Nat.le_of_ble_eq_true rfl) (fun s hs=>?_) fun ρ3=>?_
  ·walk_at "mv";walk_at "ixn";walk_at "2";refine⟨_,o,V.int (jl cells s o),.l,rfl,lB hl5 (by omega),fE (dC hl5 s),?_⟩;walk_at "ixn";walk_at "2";refine⟨_,p,V.int (jl cells s p),.l,rfl,lB hl5 hp5,fE (dC hl5 s),?_⟩;refine DH ?_;refine⟨?_,rfl⟩;congr 1;unfold jl;rw[decide_eq_decide];omega
  ·walk_at "mv";rw[show(dM cells).map (fun s=>V.bool (decide ((bq cells s).getD o 0 < (bq cells s).getD p 0)))=((dM cells).map fun s=>decide ((bq cells s).getD o 0 < (bq cells s).getD p 0)).map V.bool from by rw[List.map_map];rfl];refine wH rfl ?_;refine rx ?_;refine⟨?_,rfl⟩;rw[List.all_map,hrow];congr 1;exact beq_self_eq_true _
 repeat walk_at "mv"
 refine mn (by walk_at "s") (by decide) (by decide) (by decide) ?_;rw[show V.lst (ds.flatMap fun a=>if true=true then (List.range a).map fun J=>V.bool true else [])=V.lst (List.replicate (15:Int).toNat [V.bool true]).flatten from rfl];refine dJ rfl (Nat.le_of_ble_eq_true rfl) ?_;walk_at "mv"
 try dsimp only
 walk_at "mv";refine fB (fun p hm=>((.cons _ (.cons₂ _ (.cons₂ _ (.cons₂ _ (.cons₂ _ (.cons₂ _ (.cons₂ _ (.cons₂ _ (.cons₂ _ (.cons₂ _ (.cons _ .slnil))))))))))):List.Sublist _ _).subset hm) ?_;exact h
variable{kx:X→Hp→Prop}
open PySem.MeetsSeq PySem.MeetsSeq2 PySem.MeetsSeq3 PySem.AutoSeq1 in
theorem m8 (l:Addr) (items:Array Value) (n:Nat) (dd:Option Addr) (sl:Array (Option Value)) (b:Addr) (items2:Array Value) (n2:Nat) (dd2:Option Addr) (sl2:Array (Option Value)) (hc0:¬items.isEmpty=true) (hc1:¬items2.isEmpty=true) (hs0:items.size+items2.size≤sizeLine):
  Meets (Builtin.«tuple.__add__» ⟨[.ref l,.ref b],[]⟩) (fun J R s=>s.heap.get? l=some {cls:=.type "tuple",dict:=dd,data:=.seq items n,slots:=sl}∧s.heap.get? b=some {cls:=.type "tuple",dict:=dd2,data:=.seq items2 n2,slots:=sl2}∧R (.ok (.ret (Value.ref s.heap.objs.size))) {s with heap:=s.heap.push {cls:=Value.type "tuple",data:=Data.seq (items++items2)},toks:=s.toks}):=
 .of_wp fun prog w A R s h=>by obtain⟨hp,g,d,tk,os⟩:=s;revert h;refine gT fun hl hb h=>?_;have f1:=AutoSeq1.idx_int;have f2:=AutoSeq1.sub_tuple_tuple;have f3:=AutoSeq1.sub_list_list;have f4:=AutoSeq1.sub_tuple_list;have f5:=AutoSeq1.sub_list_tuple;wp_walk using wpAny_loadPart' hl,wpAny_loadPart' hb;exact⟨_,rfl,h⟩
theorem rs{m:List V}(hl:l.length+m.length≤1000)(h1:l≠[])(h2:m≠[])(h:k (.tup (l++m)) H):Pr prog w K d hd [.tup l,.tup m] (qE .Add) H k kx:=by
 refine az fun A σ Z s a b Q E hA S q1 q2 hQ hE=>?_;obtain⟨a,vs,rfl,f,⟨oa,hpl,ca,n,da⟩,hvs⟩:=q1;obtain⟨b,ws,rfl,f2,⟨ob,hpl2,cb,n2,db⟩,hws⟩:=q2;have e1:vs.size=l.length:=by rw[hvs.length];simp
 have e2:ws.size=m.length:=by rw[hws.length];simp
 have ne:∀ {l:List V} {vs:Array Value},l≠[]→vs.size=l.length→¬ vs.isEmpty=true:=fun {l vs} hne e q=>by
  have:vs.size=0:=by simpa [Array.isEmpty] using q
  have:0 < l.length:=List.length_pos_iff.mpr hne;omega
 obtain⟨cA,dA,tA,sA⟩:=oa;obtain⟨cB,dB,tB,sB⟩:=ob;dsimp only at ca cb da db;subst ca cb da db;refine concat_meets ⟨_,hpl,rfl⟩ ⟨_,hpl2,rfl⟩ noFill_tuple_add seq_tuple_add F.slot_tuple_add F.entry_tuple_add (F.args_tuple_add_2 _ _) (m8 a vs n dA sA b ws n2 dB sB (ne h1 e1) (ne h2 e2) (by rw[e1,e2];exact Nat.le_trans hl (by decide))) ⟨hpl,hpl2,?_⟩;refine hQ _ _ σ (.tup (l++m)) H (Go.push Z σ s _ s.toks) (S.push _ s.toks) ?_ h;have gg:=Go.push Z σ s {cls:=.type "tuple",data:=.seq (vs++ws)} s.toks;refine⟨_,vs++ws,rfl,S.fresh,⟨_,Heap.get?_push_size _ rfl,rfl,0,rfl⟩,?_⟩;rw[Array.toList_append];exact ak.app (ak.go gg (fun J h=>nomatch h) _ hvs) (ak.go gg (fun J h=>nomatch h) _ hws)
theorem w1(hl:l.length≤1000)(h:kb (!l.isEmpty) H):Tr prog w K d hd (.tup l) H kb kx:=by
 intro A σ Z s v Q E hA S hv hQ hE;obtain⟨a,vs,rfl,f,hi,hvs⟩:=hv;have e:=hvs.length;have e':vs.toList.length=vs.size:=by walk_at "s"
 have e2:vs.isEmpty=l.isEmpty:=by
  cases l with
  | nil=>simp at e;simp[Array.isEmpty,←e]
  | cons x r=>simp at e;simp[Array.isEmpty,←e]
 refine PyProof.Rows.truthy_tuple hi (by omega) ?_;rw[e2];exact hQ _ _ σ H (Go.tok ..) (S.tok _) h
theorem vC(h:Ev prog w K d hd env ρ (eval e1 env) H (fun u H1=>Tr prog w K d hd u H1 (fun b H2=>match b with | false=>k u H2 | true=>Ev prog w K d hd env ρ (eval (.BoolOp .And (e2::es) pos) env) H2 k kx) kx) kx):
  Ev prog w K d hd env ρ (eval (.BoolOp .And (e1::e2::es) pos) env) H k kx:=by
 intro A σ Z s Q E hA S F hQ hE;show wpAny _ A (do let v←eval e1 env;standAt pos;let t←holding [v] (truthy v);match BoolOp.And,t with | .And,false | .Or,true=>pure v | _,_=>eval (.BoolOp .And (e2::es) pos) env) Q E s;refine wpAny_bind (h A σ Z s _ _ hA S F (fun v s1 σ1 u H1 g1 S1 hu hk=>wpAny_bind (wpAny_standAt (wpAny_bind (wpAny_holding ?_)))) hE);refine hk A σ1 Z s1 v _ _ hA S1 hu (fun b s2 σ2 H2 g2 S2 hk2=>?_) (hE.go g1);cases b with
 | false=>exact wpAny_pure (hQ v s2 σ2 u H2 (g1.trans g2) S2 (VR.go g2 (fun J h=>nomatch h) _ hu) hk2)
 | true=>
  exact hk2 A σ2 Z s2 _ _ hA S2 ((F.go S g1).go S1 g2) (fun v s' σ' x H' g' S' hx=>hQ v s' σ' x H' ((g1.trans g2).trans g') S' hx) (fun e s' σ' x H' g' S' hx=>hE e s' σ' x H' ((g1.trans g2).trans g') S' (hx.old (g1.trans g2)))
theorem xI(h:Ev prog w K d hd env ρ (eval e1 env) H k kx):Ev prog w K d hd env ρ (eval (.BoolOp .And [e1] pos) env) H k kx:=h
theorem oW(hl:l.length≤1000)(h0:st≠some 0)(h:k (.ob H.length) (H++[.l (cr l lo hi st)])):Pr prog w K d hd [.lst l,.slc lo hi st] gI H k kx:=by
 refine az fun A σ Z s a b Q E hA S q1 q2 hQ hE=>?_;obtain⟨a,vs,rfl,f,hpl,hvs⟩:=q1;obtain⟨b,vl,vu,vt,rfl,fb,hs,p1,p2,p3⟩:=q2;have e1:vs.size=l.length:=by rw[hvs.length];simp
 have hp:∀ {h:Heap} {σ':List Addr},ak w.params h σ' Z l vs.toList→ak w.params h σ' Z (cr l lo hi st) (slicePick vs lo hi st).toList:=fun q=>by
  rw[slicePick,cr];rw[e1];exact ak.pick q _
 have hobj:(s.heap.push {cls:=.type "list",data:=.seq (slicePick vs lo hi st)}).get? s.heap.objs.size=some {cls:=.type "list",data:=.seq (slicePick vs lo hi st)}:=Heap.get?_push_size _ rfl;have g:=Go.pushOb Z σ s {cls:=.type "list",data:=.seq (slicePick vs lo hi st)} s.toks;refine wpAny_getItem_list_slice hpl.isList hs p1 p2 p3 h0 (hQ _ {s with heap:=s.heap.push {cls:=.type "list",data:=.seq (slicePick vs lo hi st)}} (σ++[s.heap.objs.size]) _ _ g (S.newOb _ s.toks (ob:=.l (cr l lo hi st)) ⟨slicePick vs lo hi st,⟨0,hobj⟩,?_⟩) ?_ h) (by rw[e1];exact Nat.le_trans hl (by decide))
 ·exact hp (ak.go g (fun J h=>nomatch h) _ hvs)
 ·exact⟨_,rfl,S.newAt⟩
theorem pH(ok:bI K)(hh:hd.h=true)(hl:ps.length≤1000)(h:k (.ob H.length) (H++[.l (ps.map gu)])):Pr prog w K (d+1) hd [hsF ps] (fun vs=>call (.ref 270) vs) H k kx:=by
 obtain⟨hb,top⟩:=hd;exists hh;refine bp (ρ0:=[("self",hsF ps)]) (ok.hsF (270,11,["self"]) ∅) rfl rfl fun env hsc=>?_;walk_at "b";walk_at "2";walk_at "slc";refine aI rfl ?_;walk_at "mv";refine eZ ok (u:=.lst (ps.map gu)) ⋯ rfl ?_;walk_at "4";refine⟨rfl,oW (by simpa using hl) (by decide) ?_⟩;rw[dX];simp only[Option.elim,List.drop_zero,Nat.sub_zero];rw[List.take_length];exact h
theorem gO(cells:List Nat):(gM cells).length≤12:=jQ bc _ _ 5
theorem yC(n:Nat)(o:Option (String × Str)):(bR o).oldB n=true:=by cases o <;> rfl
theorem nU(pm:Value)(ups:List Nat)(kept:List Str)(ends:List Nat):∀ (f j:Nat),(bk pm ups kept ends f j).oldB 0=true
 | 0=>fun j=>rfl
 | f+1=>fun j=>by
  have hk:bU 0 ((aD ups j).map (bk pm ups kept ends f))=true:=aC 0 _ (nU pm ups kept ends f) _
  have htl:(li (ends.getD j 0)).oldB 0=true:=by
   have h3:ends.getD j 0 % 3 < 3:=Nat.mod_lt _ (by decide);unfold li;generalize ends.getD j 0 % 3=m at h3 ⊢;exact n3 rfl rfl rfl m h3
  exact gr (gr hk (gr (gr rfl (gr htl rfl)) rfl)) (gr rfl (gr hk (gr htl rfl)))
theorem uM(cells:List Nat):∀ p∈([gn cells,cH cells,iO cells,gi pm cells,gj cells,gF cells,jM cells,fx cells,mW cells]:ai),p.2.oldB 0=true:=by
 simp only[List.forall_mem_cons];refine⟨eJ 0 _,ms 0 _,aP 0 (lf 0 _ _),?_,?_,?_,aP 0 (gS 0 _),aP 0 (aC 0 _ (yC 0) _),aP 0 (gS 0 _),fun J h=>nomatch h⟩
 ·exact aC 0 _ (nU pm _ _ _ 6) _
 ·exact aP 0 (aC 0 (m0 (aq cells)) (fun J=>rfl) _)
 ·exact aP 0 (aC 0 _ (fun i=>aP 0 (gS 0 _)) _)
theorem CK(ok2:dz K pm)(hsc:Sc env (aj 30) (own env))(hl5:cells.length=5)(T:fk (aK cells) (ao cells)){kxs:X→ai→Hp→Prop}(h:Ex prog w K (d+9) ⟨true,top⟩ env [gn cells,cH cells,iO cells,gi pm cells,gj cells,gF cells,jM cells,fx cells,mW cells] (execs (aH 25) env) [] ks kxs):
  Ex prog w K (d+9) ⟨true,top⟩ env [gn cells,cH cells,iO cells,gi pm cells,gj cells,gF cells,jM cells,fx cells,mW cells] (execs (aH 24) env) [] ks kxs:=by
 have ok:=ok2.ok;rw[aB 24 (by decide)];refine jP (l1:=[rc 24]) (l2:=aH 25) ?_;refine aw ?_;walk_at "l";refine aR rfl ?_;refine bl (id:="list.append") rfl rfl rfl ?_;refine am (fun hit1 hit2=>?_) ((ok.hsF (270,11,["self"]) ∅).at);refine hJ rfl hit2 ?_;walk_at "mv";refine⟨bN ok ∅ hit1 pU ∅,?_⟩;refine pH ok rfl (Nat.le_trans (gO cells) (by decide)) ?_;refine⟨bM (l:=(gM cells).map gu) rfl,?_⟩
 repeat walk_at "mv"
 refine bF (l:=(gM cells).map gu) rfl (by rw[List.length_map];exact Nat.le_trans (gO cells) (by decide)) ?_;walk_at "mv";refine⟨[gn cells,cH cells,iO cells,gi pm cells,gj cells,gF cells,jM cells,fx cells,mW cells],fun x u' hm=>⟨u',hm,du.same _ (uM cells _ hm)⟩,h⟩
variable{kx:X→Hp→Prop}
theorem wo(h5:hand < 5):∀ o,(cW hand cell).2.2=some o→(bR (some o)).isDat=true:=by
 intro o;unfold cW;split
 ·have h4:cell / 1000 % 10 % 4 < 4:=Nat.mod_lt _ (by decide);generalize cell / 1000 % 10 % 4=m at h4 ⊢;refine n4 ?_ ?_ ?_ ?_ m h4 <;> intro e <;> exists e <;> walk_at "k"
 ·split
  ·intro e;exists e;walk_at "k"
  ·intro e;exists e
variable{o:String × Str}
theorem yA(h:(cC cells).getD i none=some o):(bR (some o)).isDat=true:=by
 rw[List.getD_eq_getElem?_getD] at h;cases e:(cC cells)[i]? with
 | none=>rw[e] at h;exists h
 | some x=>
  rw[e] at h;have h':x=some o:=h;unfold cC bS at e;rw[List.getElem?_map] at e;refine ab (fun l hl hx=>?_) (Option.map_eq_some_iff.mp e);rw[h'] at hx;rcases List.mem_cons.mp (List.mem_of_getElem? hl) with rfl | hm
  ·exists hx
  ·refine ab (fun c J t=>?_) (List.mem_map.mp hm);obtain rfl:=t;exact wo (Nat.mod_lt _ (by decide)) o hx
theorem DB(cells:List Nat):(cC cells).getD 0 none=none:=rfl
noncomputable def Bh(i:Nat)(o:Option (String × Str)):V:=match o with | some o=>uK i o | none=>.none
theorem yM(out:List (Option (String × Str)))(h0:out.getD 0 none=none):(ds.filter fun i=>(out.getD i none).isSome).map (fun i=>Bh i (out.getD i none))=bW out 5:=by
 have h:∀ i,(if ((out.getD i none).isSome=true) then [Bh i (out.getD i none)] else [])=(match out.getD i none with | none=>[] | some o=>[uK i o]):=fun i=>by
  cases out.getD i none <;> rfl
 rw[←dU];simp only[ds,List.flatMap_cons,List.flatMap_nil,h];rw[h0];simp only[bW,List.nil_append,List.append_nil,List.append_assoc] <;> rfl
theorem j7{cells:List Nat}:∀ n,∀ u∈bW (cC cells) n,u.isDat=true∧u.dat.depth≤20
 | 0=>fun u h=>nomatch h
 | n+1=>fun u h=>by
  rw[oZ] at h;rcases List.mem_append.mp h with h | h
  ·exact j7 n u h
  ·revert h
   cases q:(cC cells).getD (n+1) none with
   | none=>intro h;exists h
   | some o=>
    intro h;rw[List.mem_singleton.mp h];have:=yA q;refine⟨?_,Nat.le_of_ble_eq_true rfl⟩;exact this
theorem fG(hl5:cells.length=5):(cC cells).length=6:=by unfold cC;rw[List.length_map,fU hl5]
theorem CL(ok2:dz K pm)(hsc:Sc env (aj 30) (own env))(hl5:cells.length=5)(T:fk (aK cells) (ao cells)){kxs:X→ai→Hp→Prop}(h:Ex prog w K (d+9) ⟨true,top⟩ env [gn cells,cH cells,gi pm cells,gj cells,gF cells,jM cells,fx cells,mW cells] (execs (aH 26) env) [] ks kxs):
  Ex prog w K (d+9) ⟨true,top⟩ env [gn cells,cH cells,iO cells,gi pm cells,gj cells,gF cells,jM cells,fx cells,mW cells] (execs (aH 25) env) [] ks kxs:=by
 have ok:=ok2.ok;rw[aB 25 (by decide)];refine aw ?_;walk_at "l";walk_at "mv";refine bJ rfl ?_;walk_at "mv";refine au hsc (aA rfl fun J J=>rfl) ⋯ (ag.skip (ag.skip (ag.skip (ag.skip (ag.skip (ag.skip (ag.skip (ag.take ⋯ (ag.skip (ag.nil)))))))))) ?_;refine cp ok hsc ⋯ aJ rfl rfl ?_
 repeat walk_at "mv"
 refine⟨_,bf rfl ⟨by decide,by decide⟩,fun cenv Xw hc=>?_⟩;refine nC (xs:=ds) hc ah (fun i=>((cC cells).getD i none).isSome) (fun i=>Bh i ((cC cells).getD i none)) ⋯ ⋯ (by decide) (fun i hi=>?_) (fun i hi hp=>?_) fun ρ2=>?_
 ·have hi5:i≤5:=aL hi;refine cY (bY rfl ?_);walk_at "ixn";walk_at "2";refine⟨_,i,bR ((cC cells).getD i none),.l,rfl,dG bR _ none (by rw[fG hl5];omega),by rw[List.length_map,fG hl5];decide,?_⟩;cases (cC cells).getD i none with
  | none=>exact lj ⟨rfl,rfl⟩
  | some o=>exact w1 (by show(2:Nat)≤1000;decide) ⟨rfl,rfl⟩
 ·have hi5:i≤5:=aL hi
  repeat walk_at "mv"
  walk_at "ixn";walk_at "2";refine⟨_,i,bR ((cC cells).getD i none),.l,rfl,dG bR _ none (by rw[fG hl5];omega),by rw[List.length_map,fG hl5];decide,?_⟩
  revert hp
  cases (cC cells).getD i none with
  | none=>intro hp;exists hp
  | some o=>
   intro hp;exact rs (by show(3:Nat)≤1000;decide) (by walk_at "s") (by walk_at "s") ⟨rfl,rfl⟩
 rw[yM _ (DB cells)];refine dJ (ia fun u hu=>(j7 5 u hu).1) (Nat.le_trans (fw fun u hu=>(j7 5 u hu).2) (by decide)) ?_;walk_at "mv"
 try dsimp only
 walk_at "mv";refine fB (fun p hm=>((.cons₂ _ (.cons₂ _ (.cons _ (.cons₂ _ (.cons₂ _ (.cons₂ _ (.cons₂ _ (.cons₂ _ (.cons₂ _ .slnil))))))))):List.Sublist _ _).subset hm) ?_;exact h
variable{kx:X→Hp→Prop}
noncomputable def XL:List Nat:=[120,45,45,45,45,45]
theorem D6(i:Nat)(h:i < 6):(Str.ofString "x-----").cps[((i:Nat):Int).toNat]? =some (XL.getD i 0):=by
 refine n6 ?_ ?_ ?_ ?_ ?_ ?_ i (Nat.le_of_lt_succ h) <;> kernel_rfl
noncomputable def ic(kept:List Str)(i:Nat):List (Str × Str):=[(bH i,kept.getD i ⟨#[]⟩),(jD i,⟨#[XL.getD i 0]⟩)]
theorem Cv(cells:List Nat):(aq cells).getD 0 ⟨#[]⟩=Str.ofString "x":=rfl
theorem lY(hl5:cells.length=5)(h5:i≤5):¬ (aq cells)[i]? =none:=by
 rw[List.getElem?_eq_none_iff,cU hl5];omega
theorem yc(cells:List Nat):ic (aq cells) 0=bc:=by
 have hx:(⟨#[120]⟩:Str)=Str.ofString "x":=by walk_at "k"
 unfold ic bc;rw[Cv];show[(bH 0,Str.ofString "x"),(jD 0,(⟨#[120]⟩:Str))]=_;rw[hx]
theorem jX(hl5:cells.length=5):(ds.flatMap fun i=>if ((cC cells).getD i none).isNone then (ic (aq cells) i).map gu else [])=(gM cells).map gu:=by
 have hx:(⟨#[120]⟩:Str)=Str.ofString "x":=by walk_at "k"
 have hd:(⟨#[45]⟩:Str)=bX:=by walk_at "k"
 have h1:∀ i,1≤i→i≤5→(if ((cC cells).getD i none).isNone then (ic (aq cells) i).map gu else [])=(match (cC cells).getD i none with | none=>[(bH i,(aq cells).getD i bX),(jD i,bX)] | some _=>[]).map gu:=fun i h1 h5=>by
  cases q:(cC cells).getD i none with
  | some o=>rfl
  | none=>
   have hk:(aq cells).getD i bX=(aq cells).getD i ⟨#[]⟩∨(aq cells)[i]? =none:=by
    rw[List.getD_eq_getElem?_getD,List.getD_eq_getElem?_getD];cases (aq cells)[i]? with
    | none=>exact .inr rfl
    | some x=>exact .inl rfl
   have hX:(⟨#[XL.getD i 0]⟩:Str)=bX:=ED hd hd hd hd hd i h1 h5;unfold ic;rw[hX];rcases hk with hk | hk
   ·rw[hk];rfl
   ·exact absurd hk (lY hl5 h5)
 simp only[ds,List.flatMap_cons,List.flatMap_nil];rw[h1 1 (by decide) (by decide),h1 2 (by decide) (by decide),h1 3 (by decide) (by decide),h1 4 (by decide) (by decide),h1 5 (by decide) (by decide)];rw[DB,yc];simp only[gM,bC,List.map_append,List.append_assoc,List.append_nil];rfl
theorem yS:∀ hand,hand < 5→∀ a,a < 9→∀ b,b < 10→PyData.strOk (aT hand (ce.getD a ⟨#[]⟩++ce.getD b ⟨#[]⟩))=true:=by walk_at "k"
theorem dT:PyData.strOk (⟨#[]⟩:Str)=true:=by walk_at "k"
theorem oE(cells:List Nat)(i:Nat):PyData.strOk ((aq cells).getD i ⟨#[]⟩)=true:=by
 rw[List.getD_eq_getElem?_getD];cases e:(aq cells)[i]? with
 | none=>exact dT
 | some y=>
  unfold aq bS at e;rw[List.getElem?_map] at e;refine ab (fun l hl t=>?_) (Option.map_eq_some_iff.mp e);obtain rfl:=t;rcases List.mem_cons.mp (List.mem_of_getElem? hl) with rfl | hm
  ·walk_at "k"
  ·refine ab (fun c J t=>?_) (List.mem_map.mp hm);obtain rfl:=t;have h5:cells.sum % 5 < 5:=Nat.mod_lt _ (by decide);unfold cW;split
   ·have h4:c / 1000 % 10 % 4 < 4:=Nat.mod_lt _ (by decide);generalize c / 1000 % 10 % 4=m at h4 ⊢;exact n4 dT dT dT dT m h4
   ·split
    ·exact dT
    ·exact yS _ h5 _ (by omega) _ (by omega)
theorem w0(cells:List Nat)(i:Nat):PyData.strOk ((bj cells).getD i ⟨#[]⟩)=true:=by
 rw[List.getD_eq_getElem?_getD];cases e:(bj cells)[i]? with
 | none=>exact dT
 | some y=>
  unfold bj at e;rw[List.getElem?_map] at e;refine ab (fun l J t=>?_) (Option.map_eq_some_iff.mp e);obtain rfl:=t;show PyData.strOk (aU l)=true;unfold aU;split
  ·walk_at "k"
  ·exact dT
theorem AT:∀ i,i < 6→PyData.strOk (bH i)=true∧PyData.strOk (jD i)=true∧PyData.strOk ⟨#[XL.getD i 0]⟩=true:=by walk_at "k"
theorem sz(hl5:cells.length=5):∀ u∈(gM cells).map gu,u.isDat=true∧u.dat.depth≤20:=by
 rw[←jX hl5];intro u hu;refine ab (fun i hi hu=>?_) (List.mem_flatMap.mp hu);have hi6:i < 6:=Nat.lt_succ_of_le (aL hi);split at hu
 ·refine ab (fun p hp t=>?_) (List.mem_map.mp hu);obtain rfl:=t;refine⟨?_,Nat.le_of_ble_eq_true rfl⟩;refine gT (fun l1 l2 l3=>?_) (AT i hi6);rcases List.mem_cons.mp hp with rfl | hp
  ·exact fJ l1 (fJ (oE cells i) rfl)
  ·rw[List.mem_singleton.mp hp];exact fJ l2 (fJ l3 rfl)
 ·exists hu
theorem CM(ok2:dz K pm)(hsc:Sc env (aj 30) (own env))(hl5:cells.length=5)(T:fk (aK cells) (ao cells))(I:gD (lN cells) (gM cells) (aK cells) (aq cells) (bn cells))(hP:gh (gM cells) (Str.ofString "P")=[Str.ofString "x",Str.ofString "x"]){kxs:X→ai→Hp→Prop}(h:Ex prog w K (d+9) ⟨true,top⟩ env [gn cells,gi pm cells,gj cells,gF cells,jM cells,mW cells] (execs (aH 27) env) [] ks kxs):
  Ex prog w K (d+9) ⟨true,top⟩ env [gn cells,cH cells,gi pm cells,gj cells,gF cells,jM cells,fx cells,mW cells] (execs (aH 26) env) [] ks kxs:=by
 have ok:=ok2.ok;rw[aB 26 (by decide)];refine aw ?_;walk_at "l";walk_at "mv";refine vy (ib ?_);refine bJ rfl ?_;refine am (fun hit1 hit2=>?_) ((ok.hsF (270,11,["self"]) ∅).at);refine am (fun hga1 hga2=>?_) ((ok.hsF (245,7,["self","name"]) ∅).at);refine hJ rfl hit2 ?_;walk_at "mv";refine⟨bN ok ∅ hit1 pU ∅,?_⟩;refine qY ok rfl (Nat.le_trans (gO cells) (by decide)) ?_;refine au hsc (rY ⟨rfl,rfl⟩ (fun J J=>rfl) fun J J=>rfl) ⋯ (ag.skip (ag.skip (ag.skip (ag.skip (ag.skip (ag.take ⋯ (ag.take ⋯ (ag.skip (ag.nil))))))))) ?_;refine cp ok hsc ⋯ aJ rfl rfl ?_
 repeat walk_at "mv"
 refine⟨_,bf rfl ⟨by decide,by decide⟩,fun cenv Xw hc=>?_⟩;refine pO (xs:=ds) hc ah gu (fun i=>((cC cells).getD i none).isNone) (ic (aq cells)) (fun J p=>gu p) ⋯ ⋯ ⋯ ⋯ ⋯ (by rw[jX hl5,List.length_map];exact Nat.le_trans (gO cells) (by decide)) (fun i hi=>?_) (fun i hi=>?_) (fun i hi p hp=>?_) fun ρ2=>?_
 ·have hi5:i≤5:=aL hi;refine cY (z6 ?_);refine bY rfl ?_;walk_at "ixn";walk_at "2";refine⟨_,i,bR ((cC cells).getD i none),.l,rfl,dG bR _ none (by rw[fG hl5];omega),by rw[List.length_map,fG hl5];decide,?_⟩;cases (cC cells).getD i none with
  | none=>exact lj ⟨rfl,rfl⟩
  | some o=>exact w1 (by show(2:Nat)≤1000;decide) ⟨rfl,rfl⟩
 ·have hi5:i≤5:=aL hi;refine aX ?_;walk_at "4";walk_at "ix";walk_at "2";refine⟨rfl,cX (by omega) (by omega) (pZ i (by omega)) ?_⟩;walk_at "mv";walk_at "ixn";walk_at "2";refine⟨_,i,V.str ((aq cells).getD i ⟨#[]⟩),.l,rfl,dG V.str _ _ (by rw[cU hl5];omega),by rw[List.length_map,cU hl5];decide,?_⟩;walk_at "mv";refine⟨Nat.le_of_ble_eq_true rfl,?_⟩;walk_at "3";walk_at "ix";walk_at "2";refine⟨rfl,cX (by omega) (by omega) (y6 i (by omega)) ?_⟩;walk_at "mv";walk_at "ix";walk_at "2";refine⟨rfl,cX (by omega) (by omega) (D6 i (by omega)) ?_⟩;walk_at "mv";refine⟨Nat.le_of_ble_eq_true rfl,?_⟩;walk_at "mv";refine⟨Nat.le_of_ble_eq_true rfl,?_⟩;exact⟨_,aS rfl,rfl,rfl⟩
 ·walk_at "mv";exact⟨rfl,rfl⟩
 rw[jX hl5];refine dJ (ia fun u hu=>(sz hl5 u hu).1) (Nat.le_trans (fw fun u hu=>(sz hl5 u hu).2) (by decide)) ?_;walk_at "mv"
 try dsimp only
 refine ib ?_;refine bJ rfl ?_;refine bZ rfl rfl rfl hga2 ?_;walk_at "mv";refine⟨bN ok ∅ hga1 iF ∅,?_⟩
 repeat walk_at "mv"
 refine lP ok rfl I.l2 I.o2 ∅ ∅ ∅ ?_;rw[hP]
 repeat walk_at "mv"
 refine dJ ∅ (Nat.le_of_ble_eq_true rfl) ?_;walk_at "mv"
 try dsimp only
 refine iQ ?_
 try dsimp only
 rw[show(PySem.BoolOp.Or==PySem.BoolOp.And)=false from rfl];walk_at "mv";refine fB (fun p hm=>((.cons₂ _ (.cons _ (.cons₂ _ (.cons₂ _ (.cons₂ _ (.cons₂ _ (.cons _ (.cons₂ _ .slnil)))))))):List.Sublist _ _).subset hm) ?_;exact h
theorem qL(cells:List Nat)(i:Nat):kM cells i=cJ (aK cells) (aq cells) (bj cells) 6 i++if (bn cells).getD i 0 % 3=2 then [Str.ofString "z"] else []:=rfl
theorem qo(cells:List Nat)(i:Nat):(bj cells).getD i ⟨#[]⟩=aU ((bn cells).getD i 0):=by
 unfold bj;rw[List.getD_eq_getElem?_getD,List.getD_eq_getElem?_getD,List.getElem?_map];cases (bn cells)[i]? <;> rfl
set_option tactic.hygienic true in
theorem CN(ok2:dz K pm)(hsc:Sc env (aj 30) (own env))(hl5:cells.length=5)(T:fk (aK cells) (ao cells)){kxs:X→ai→Hp→Prop}(h:Ex prog w K (d+9) ⟨true,top⟩ env [gi pm cells,gj cells,gF cells,jM cells,("due",f6 cells)] (execs (aH 28) env) [] ks kxs):
  Ex prog w K (d+9) ⟨true,top⟩ env [gn cells,gi pm cells,gj cells,gF cells,jM cells,mW cells] (execs (aH 27) env) [] ks kxs:=by
 have ok:=ok2.ok;rw[aB 27 (by decide)];refine aw ?_;walk_at "l";refine di hsc (aA rfl fun J J=>rfl) ⋯ (ag.take ⋯ (ag.skip (ag.skip (ag.skip (ag.take ⋯ (ag.take ⋯ (ag.nil))))))) ⋯ ⋯ ⋯ (ρ':=fun u=>[gn cells,gi pm cells,gj cells,gF cells,jM cells,mW cells,("due",u)]) ?hp ?_
 case hp=>
  intro u;walk_at "d"
 refine cp ok hsc ⋯ aJ rfl rfl ?_
 repeat walk_at "mv"
 refine⟨_,bf rfl ⟨by decide,by decide⟩,fun cenv Xw hc=>?_⟩;refine bL (xs:=ds) hc ah (fun i=>V.lst ((kM cells i).map V.str)) ⋯ ⋯ (by decide) (fun i hi=>?_) fun ρ2=>?_
 ·have hi5:i≤5:=aL hi;walk_at "mv";refine eV ok hc (x:="_law_page") (a:=372) ∅ (ok.fn (372,29,["place","ups","kept","tails"]) ∅).obj ⋯ ⋯ rfl rfl ?_;walk_at "8";walk_at "mv";refine sX (d:=d+3) ok T.ul (cU hl5) (eQ hl5) (fun j j1 j5=>T.up j (by omega) j1) 6 i rfl (by omega) hi5 ?_;refine au hc (aA rfl fun J J=>rfl) ⋯ (ag.skip (ag.skip (ag.skip (ag.skip ag.nil)))) ?_;refine aX ?_;walk_at "2";walk_at "ixn";walk_at "2";refine⟨_,i,V.str ((bj cells).getD i ⟨#[]⟩),.l,rfl,dG V.str _ _ (by rw[eQ hl5];omega),by rw[List.length_map,eQ hl5];decide,?_⟩;walk_at "mv";refine⟨Nat.le_of_ble_eq_true rfl,?_⟩;refine⟨_,aS rfl,fun cenv2 Xw2 hc2=>?_⟩;rw[qo];rw[show[V.str (aU ((bn cells).getD i 0))]=[(bn cells).getD i 0].map (fun e=>V.str (aU e)) from rfl];refine nC hc2 (fun e=>V.str (aU e)) (fun e=>decide (e % 3=2)) (fun e=>V.str (aU e)) ⋯ ⋯ (Nat.le_of_ble_eq_true rfl) (fun e he=>?_) (fun e he hp=>?_) fun ρ3=>?_
  ·refine cY (bY rfl ?_);walk_at "mv";refine mD (by have:=qn e;omega) ⟨?_,rfl⟩;unfold aU;split
   ·rename_i q;rw[decide_eq_true q];walk_at "k"
   ·rename_i q;rw[decide_eq_false q];rfl
  ·walk_at "mv";exact⟨rfl,rfl⟩
  ·refine bx ?_ ?_
   ·have:=dW (kept:=aq cells) (tails:=bj cells) (fun j j1 j5=>T.up j (by omega) j1) 6 i hi5;have:2 ^ (6 - i)≤2 ^ 6:=Nat.pow_le_pow_right (by decide) (by omega);rw[List.length_map,List.length_map];have:=List.length_filter_le (fun e=>decide (e % 3=2)) [(bn cells).getD i 0];simp only[List.length_singleton] at this;omega
   ·refine⟨?_,rfl⟩;rw[qL,List.map_append];congr 2;rw[List.filter_cons,List.filter_nil]
    by_cases q:(bn cells).getD i 0 % 3=2
    ·rw[if_pos (decide_eq_true q),if_pos q];show[V.str (aU ((bn cells).getD i 0))]=_;unfold aU;rw[if_pos q];rfl
    ·rw[if_neg (by simpa using q),if_neg q];rfl
 refine fB (fun p hm=>((.cons _ (.cons₂ _ (.cons₂ _ (.cons₂ _ (.cons₂ _ (.cons _ (.cons₂ _ .slnil))))))):List.Sublist _ _).subset hm) ?_;exact h
variable{kx:X→Hp→Prop}
theorem nG{ups:List Nat}{kept tails:List Str}(P:Str→Prop)(hk:∀ i,P (kept.getD i ⟨#[]⟩))(ht:∀ i,P (tails.getD i ⟨#[]⟩)):∀ (f p:Nat),∀ y∈cJ ups kept tails f p,P y
 | 0=>fun p y h=>by exists h
 | f+1=>fun p y h=>by
  rw[oP] at h;rcases List.mem_cons.mp h with rfl | h
  ·exact hk p
  ·refine ab (fun kid J h=>?_) (List.mem_flatMap.mp h);split at h
   ·rcases List.mem_append.mp h with h | h
    ·exact nG P hk ht f kid y h
    ·rw[List.mem_singleton.mp h];exact ht kid
   ·exists h
theorem z5(cells:List Nat)(i:Nat):∀ y∈kM cells i,PyData.strOk y=true:=fun y h=>by
 rw[qL] at h;rcases List.mem_append.mp h with h | h
 ·exact nG (fun y=>PyData.strOk y=true) (oE cells) (w0 cells) 6 i y h
 ·split at h
  ·rw[List.mem_singleton.mp h];walk_at "k"
  ·exists h
theorem mh(cells:List Nat):(f6 cells).isDat=true∧(f6 cells).dat.depth≤30:=by
 have h1:∀ u∈ds.map (fun i=>V.lst ((kM cells i).map V.str)),u.isDat=true∧u.dat.depth≤2:=fun u hu=>by
  refine ab (fun i J t=>?_) (List.mem_map.mp hu);obtain rfl:=t;refine⟨ia fun a ha=>?_,fw fun a ha=>?_⟩
  ·refine ab (fun y hy t=>?_) (List.mem_map.mp ha);obtain rfl:=t;exact z5 cells i y hy
  ·refine ab (fun y hy t=>?_) (List.mem_map.mp ha);obtain rfl:=t;exact Nat.le_of_ble_eq_true rfl
 exact⟨ia fun u hu=>(h1 u hu).1,Nat.le_trans (fw fun u hu=>(h1 u hu).2) (by decide)⟩
theorem vZ(cells:List Nat):[1,2,3,4,5].map (m0 (aq cells))=([1,2,3,4,5].map fun i=>((aq cells).getD i ⟨#[]⟩,Str.ofString "no")).map fun p=>V.dct [Str.ofString "text",Str.ofString "tail"] [.str p.1,.str p.2]:=by rw[List.map_map];rfl
theorem CO(ok2:dz K pm)(hsc:Sc env (aj 30) (own env))(hl5:cells.length=5)(T:fk (aK cells) (ao cells)){kxs:X→ai→Hp→Prop}(h:ks (.ret (.bool true)) [gi pm cells,gj cells,gF cells,jM cells,("due",f6 cells)] []):
  Ex prog w K (d+9) ⟨true,top⟩ env [gi pm cells,gj cells,gF cells,jM cells,("due",f6 cells)] (execs (aH 28) env) [] ks kxs:=by
 have ok:=ok2.ok;rw[aB 28 (by decide)];refine aw ?_;walk_at "l";walk_at "mv";refine vC ?_;walk_at "3";refine ml (mh cells).1 (mh cells).2 ?_;walk_at "mv"
 try dsimp only
 refine vC ?_;walk_at "mv";refine au hsc (aA rfl fun J J=>rfl) ⋯ (ag.take ⋯ (ag.skip (ag.skip (ag.skip (ag.skip (ag.nil)))))) ?_;refine aX ?_;walk_at "mv";refine⟨_,lX rfl,fun cenv Xw hc=>?_⟩;rw[show dY (Str.ofString "pdbeac")=ds.map fun i=>V.str (bH i) from by kernel_rfl];refine bL hc (fun i=>V.str (bH i)) (fun i=>V.str (bH i)) ⋯ ⋯ (by decide) (fun i hi=>?_) fun ρ2=>?_
 ·have hi5:i≤5:=aL hi;refine aI rfl ?_;walk_at "ix";walk_at "2";refine⟨rfl,ie (iC (done:=ds) (F:=bk pm (aK cells) (aq cells) (bn cells) 6) (fun j hj=>aL hj) hi hi5) ?_⟩;exact fg sr (u:=.str (bH i)) ⋯ rfl ⟨rfl,rfl⟩
 refine iq ok hsc ⋯ n8 rfl rfl ?_
 repeat walk_at "mv"
 refine qb rfl ∅ ?_;rw[show dY (Str.ofString "pdbeac")=ds.map fun i=>V.str (bH i) from by kernel_rfl];refine ml ∅ (Nat.le_of_ble_eq_true rfl) ?_;walk_at "mv"
 try dsimp only
 refine xI ?_;walk_at "2";refine au hsc (aA rfl fun J J=>rfl) ⋯ (ag.skip (ag.skip (ag.skip (ag.take ⋯ (ag.skip (ag.nil)))))) ?_;refine cp ok hsc ⋯ aJ rfl rfl ?_
 repeat walk_at "mv"
 refine⟨_,ez rfl ⟨by decide,by decide,by decide,by decide⟩,fun cenv Xw hc=>?_⟩;refine bL (xs:=[1,2,3,4,5]) hc ah (m0 (aq cells)) ⋯ ⋯ (by decide) (fun i hi=>?_) fun ρ2=>?_
 ·have hi5:i≤5:=by simp at hi;omega
  refine jO (ρ':=[("place",ah i),jM cells]) (fun x u' hm=>⟨u',hm,du.same _ (by
   rcases List.mem_cons.mp hm with e | hm
   ·exists e;rfl
   ·cases List.mem_singleton.mp hm;exact aP 0 (gS 0 _))⟩) ?_
  with_reducible refine gJ (by with_unfolding_all rfl) (by with_unfolding_all rfl) (by with_unfolding_all decide) (by with_unfolding_all decide) ?_
  walk_at "mv";walk_at "ixn";walk_at "2";refine⟨_,i,V.str ((aq cells).getD i ⟨#[]⟩),.l,rfl,dG V.str _ _ (by rw[cU hl5];omega),by rw[List.length_map,cU hl5];decide,?_⟩
  repeat walk_at "mv"
  exact⟨by walk_at "k",by decide,rfl,w3,[.str ((aq cells).getD i ⟨#[]⟩),.str (Str.ofString "no")],rfl,rfl,rfl,rfl,rfl⟩
 unfold qV;rw[vZ];refine ru ∅ (fun p hp=>?_) ?_
 ·refine ab (fun i J t=>?_) (List.mem_map.mp hp);obtain rfl:=t;exact⟨oE cells i,(by walk_at "k":PyData.strOk (Str.ofString "no")=true)⟩
 exact h
variable{kx:X→Hp→Prop}
theorem l7(hl5:cells.length=5):(ay cells).length=6:=by rw[dE,hl5]
theorem wj(hl5:cells.length=5)(hp:p≤5):(ay cells).getD p ⟨#[]⟩∈ay cells:=by
 have:=gd (l:=ay cells) (⟨#[]⟩:Str) (i:=p) (by rw[l7 hl5];omega);exact List.mem_of_getElem? this
noncomputable abbrev iA(cells:List Nat)(p:Nat):List Nat:=((ay cells).getD p ⟨#[]⟩).cps.toList
theorem jj(hl5:cells.length=5)(hp:p≤5):iA cells p∈gP:=pK (wj hl5 hp)
theorem mJ(cells:List Nat)(p:Nat):aQ ((ay cells).getD p ⟨#[]⟩++xT)=mQ (iA cells p):=by unfold mQ;rw[iH]
theorem wk(hl5:cells.length=5)(h1:1≤p)(hp:p≤5):iA cells p∈(ga 4).map (· ++[32]):=by
 obtain⟨j,rfl⟩:∃ j,p=j+1:=⟨p - 1,by omega⟩;have hl:=l7 hl5
 have hm:(ay cells).getD (j+1) ⟨#[]⟩∈((bd cells cells.length).drop 1).map (· ++Str.ofString " "):=by
  unfold ay at hl ⊢;rw[List.getD_cons_succ];rw[List.length_cons] at hl;have:=gd (l:=((bd cells cells.length).drop 1).map (· ++Str.ofString " ")) (⟨#[]⟩:Str) (i:=j) (by omega);exact List.mem_of_getElem? this
 refine ab (fun y hy e=>?_) (List.mem_map.mp hm);refine List.mem_map.mpr ⟨y.cps.toList,dP cells _ y (List.mem_of_mem_drop hy),?_⟩;show y.cps.toList++[32]=((ay cells).getD (j+1) ⟨#[]⟩).cps.toList;rw[←e];show y.cps.toList++[32]=(y.cps++(Str.ofString " ").cps).toList;rw[Array.toList_append,show(Str.ofString " ").cps.toList=[32] from by walk_at "k"]
theorem ud(cells:List Nat):iA cells 0=[]:=by
 show(Str.ofString "").cps.toList=[];walk_at "k"
theorem iL{o:Nat}(ho:o < p):(co cells p).getD o false=gc (mQ (iA cells o)) (mQ (iA cells p)):=by
 unfold co;rw[List.getD_eq_getElem?_getD,List.getElem?_map,List.getElem?_range ho];show gc _ _=_;rw[mJ,mJ]
theorem qs(cells:List Nat)(hp:p≤5):(iy cells).getD p []=co cells p:=by
 exact n6 rfl rfl rfl rfl rfl rfl p hp
theorem qZ(hl5:cells.length=5):∀ p,1≤p→p≤5→((iy cells).getD p []).getD 0 false=true:=fun p h1 h5=>by
 rw[qs cells h5,iL (by omega),ud];exact ug _ (wk hl5 h1 h5)
theorem fi(hl5:cells.length=5):fk (aK cells) (ao cells):=w2 _ (sC (qZ hl5) 5 (Nat.le_refl _))
theorem er(hl5:cells.length=5)(s:Nat)(hp:p≤5):(bq cells s).getD p 0=aE (mQ (iA cells p)) s:=by
 unfold bq;have:=dG (fun l=>aE (aQ (l++xT)) s) (ay cells) ⟨#[]⟩ (i:=p) (by rw[l7 hl5];omega);rw[List.getD_eq_getElem?_getD,this];show aE (aQ _) s=_;rw[mJ]
theorem nQ(h:s∈dM cells):1≤s:=by
 rcases List.mem_append.mp (show s∈[1,2,3,4,5,6]++[7+cells.sum % 1000] from h) with h | h
 ·exact(by decide:∀ s∈[1,2,3,4,5,6],1≤s) s h
 ·rw[List.mem_singleton.mp h];omega
theorem AI(hl5:cells.length=5):∀ p,p≤5→∀ o,o < p→(co cells p).getD o false=(dM cells).all fun s=>decide ((bq cells s).getD o 0 < (bq cells s).getD p 0):=fun p hp o ho=>by
 rw[iL ho,Bool.eq_iff_iff,List.all_eq_true];have ha:=jj hl5 (show o≤5 by omega);have hb:=jj hl5 hp;constructor
 ·intro q s hs;rw[er hl5 s (by omega),er hl5 s hp];exact decide_eq_true ((sM ha hb).mp q s (nQ hs))
 ·intro q;have h:=pM _ ha _ hb;unfold wn at h;rw[beq_iff_eq] at h;rw[h,List.all_eq_true];intro ts hts;have:=q ts (List.mem_append_left [7+cells.sum % 1000] hts);rw[er hl5 ts (by omega),er hl5 ts hp] at this;exact this
theorem qu{rows:List (List Bool)}(ht:∀ p,1≤p→p≤5→(rows.getD p []).getD 0 false=true):∀ n,n≤5→∀ k,1≤k→k≤n→∃ u,(ae rows n).2.1[k]? =some u∧(rows.getD k []).getD u false=true
 | 0=>fun J k h1 hk=>by omega
 | n+1=>fun hn k h1 hk=>by
  have hl:=(lQ ht n (by omega)).l2;rcases Nat.lt_or_ge n k with q | q
  ·have e:k=n+1:=by omega
   subst e;refine af (fun r hr=>?_) ((lQ ht n (by omega)).zero);refine fo (fun u hu1 hu2 hu3=>?_) (fS (place:=n+1) (by rw[hr];exact List.mem_cons_self:0∈(ae rows n).1) (ht (n+1) (by omega) hn));refine⟨u,?_,(List.mem_filter.mp (List.mem_of_getLast? hu1)).2⟩;show((ae rows n).2.1++[jR rows (ae rows n).1 (n+1)])[n+1]? =some u;rw[hu3,←hl,List.getElem?_append_right (Nat.le_refl _),Nat.sub_self];rfl
  ·refine ab (fun u h2 h3=>?_) (qu ht n (by omega) k h1 q);refine⟨u,?_,h3⟩;show((ae rows n).2.1++[_])[k]? =some u;rw[List.getElem?_append_left (by omega)];exact h2
theorem AQ(hl5:cells.length=5)(hs:1≤s):∀ k,k < 6→1≤k→jl cells s ((aK cells).getD k 0) < jl cells s k:=fun k h6 h1=>by
 refine ab (fun u e1 e2=>?_) (qu (qZ hl5) 5 (Nat.le_refl _) k h1 (by omega))
 have hu:(aK cells).getD k 0=u:=by
  unfold aK;rw[List.getD_eq_getElem?_getD,e1];rfl
 have hlt:=(fi hl5).up k h6 h1;rw[hu] at hlt ⊢;rw[qs cells (by omega),iL hlt] at e2;have:=(sM (jj hl5 (show u≤5 by omega)) (jj hl5 (show k≤5 by omega))).mp e2 s hs;unfold jl;rw[er hl5 s (by omega),er hl5 s (by omega)];omega
noncomputable def SN(cells:List Nat)(p:Nat):Nat:=(ds.map fun y=>(cg (ao cells) y p).toNat * wN cells y).sum
theorem td(l:List Nat)(f g:Nat→Nat):(l.map fun y=>f y+g y).sum=(l.map f).sum+(l.map g).sum:=by
 induction l with
 | nil=>rfl
 | cons a l ih=>simp only[List.map_cons,List.sum_cons];rw[ih];omega
theorem yP(l:List Nat)(f:Nat→Nat)(c:Nat):(l.map f).sum * c=(l.map fun y=>f y * c).sum:=by
 induction l with
 | nil=>simp
 | cons a l ih=>simp only[List.map_cons,List.sum_cons];rw[Nat.add_mul,ih]
theorem wZ(l m:List Nat)(f:Nat→Nat→Nat):(l.map fun y=>(m.map fun k=>f y k).sum).sum=(m.map fun k=>(l.map fun y=>f y k).sum).sum:=by
 induction l with
 | nil=>induction m with
  | nil=>rfl
  | cons a m ih=>simp only[List.map_cons,List.sum_cons,List.map_nil,List.sum_nil] at ih ⊢;omega
 | cons a l ih=>
  simp only[List.map_cons,List.sum_cons];rw[td,ih]
theorem wY(c p:Nat)(l:List Nat):(l.map fun y=>if y=p then c else 0).sum=l.count p * c:=by
 induction l with
 | nil=>exact(Nat.zero_mul c).symm
 | cons a l ih=>
  rw[List.map_cons,List.sum_cons,ih,List.count_cons,Nat.add_mul,Nat.add_comm]
  by_cases e:a=p
  ·rw[if_pos e,if_pos (beq_iff_eq.mpr e),Nat.one_mul]
  ·rw[if_neg e,if_neg (fun q=>e (beq_iff_eq.mp q)),Nat.zero_mul]
theorem uP:∀ p,p < 6→ds.count p=1:=by decide
theorem yx(c:Nat)(hp:p < 6):(ds.map fun y=>if y=p then c else 0).sum=c:=by
 rw[wY,uP p hp,Nat.one_mul]
theorem w7(l:List Nat):(l.map fun J=>0).sum=0:=by
 induction l with
 | nil=>rfl
 | cons a l ih=>simp only[List.map_cons,List.sum_cons];rw[ih]
theorem xj(hl5:cells.length=5)(hp:p < 6):SN cells p=wN cells p+(bE.map fun kid=>if (aK cells).getD kid 0=p then SN cells kid else 0).sum:=by
 have T:=fi hl5;unfold SN
 have e:∀ y∈ds,(cg (ao cells) y p).toNat * wN cells y=(if y=p then wN cells p else 0)+(bE.map fun kid=>if (aK cells).getD kid 0=p then (cg (ao cells) y kid).toNat * wN cells y else 0).sum:=fun y hy=>by
  rw[T.sp y (Nat.lt_succ_of_le (aL hy)) p hp,Nat.add_mul,yP]
  have e1:(decide (y=p)).toNat * wN cells y=if y=p then wN cells p else 0:=by
   by_cases q:y=p
   ·rw[if_pos q,decide_eq_true q,q];exact Nat.one_mul _
   ·rw[if_neg q,decide_eq_false q];exact Nat.zero_mul _
  rw[e1];refine congrArg (_+ ·) (congrArg List.sum (List.map_congr_left fun kid J=>?_))
  by_cases q:(aK cells).getD kid 0=p
  ·rw[if_pos q,if_pos q]
  ·rw[if_neg q,if_neg q,Nat.zero_mul]
 rw[List.map_congr_left e,td,wZ,yx _ hp];refine congrArg (wN cells p+ ·) (congrArg List.sum (List.map_congr_left fun kid J=>?_))
 by_cases q:(aK cells).getD kid 0=p
 ·simp only[if_pos q]
 ·simp only[if_neg q];exact w7 ds
theorem pX{cells:List Nat}(hl5:cells.length=5):∀ (f p:Nat),6≤p+f→p < 6→((cJ (aK cells) (aq cells) (bj cells) f p).map (·.length)).sum+((bj cells).getD p ⟨#[]⟩).length=SN cells p
 | 0=>fun p h1 h2=>by omega
 | f+1=>fun p h1 h2=>by
  have T:=fi hl5;rw[xj hl5 h2];rw[oP];rw[List.map_cons,List.sum_cons]
  have hw:wN cells p=((aq cells).getD p ⟨#[]⟩).length+((bj cells).getD p ⟨#[]⟩).length:=by
   unfold wN;exact Array.size_append ..
  rw[hw]
  have main:∀ l:List Nat,(∀ kid∈l,1≤kid∧kid≤5)→((l.flatMap fun kid=>if (aK cells).getD kid 0=p then cJ (aK cells) (aq cells) (bj cells) f kid++[(bj cells).getD kid ⟨#[]⟩] else []).map (·.length)).sum=(l.map fun kid=>if (aK cells).getD kid 0=p then SN cells kid else 0).sum:=fun l=>by
   induction l with
   | nil=>intro J;rfl
   | cons kid l ih=>
    intro hl;refine am (fun k1 k5=>?_) (hl kid List.mem_cons_self);rw[List.flatMap_cons,List.map_append,List.sum_append,ih fun z hz=>hl z (List.mem_cons_of_mem _ hz),List.map_cons,List.sum_cons];congr 1
    by_cases q:(aK cells).getD kid 0=p
    ·rw[if_pos q,if_pos q];have hlt:=T.up kid (by omega) k1;rw[q] at hlt;rw[←pX hl5 f kid (by omega) (by omega),List.map_append,List.sum_append];rfl
    ·rw[if_neg q,if_neg q];rfl
  rw[main bE fun kid hk=>by simp at hk;omega];omega
theorem lh(hl5:cells.length=5)(hp:p < 6):(cw cells p).length=SN cells p:=by
 unfold cw;rw[Ct,qL,List.map_append,List.sum_append,←pX hl5 6 p (by omega) hp,qo];congr 1;unfold aU;have e0:(Str.ofString "z").length=1:=by walk_at "k"
 split
 ·walk_at "s"
 ·rfl
theorem jd(cells:List Nat)(p:Nat):cS (ao cells) (wI cells) p=((SN cells p:Nat):Int):=by
 unfold cS SN
 have main:∀ l:List Nat,(l.map fun y=>if cg (ao cells) y p then wI cells y else 0).sum=(((l.map fun y=>(cg (ao cells) y p).toNat * wN cells y).sum:Nat):Int):=fun l=>by
  induction l with
  | nil=>rfl
  | cons y l ih=>
   simp only[List.map_cons,List.sum_cons];rw[ih,Int.natCast_add];congr 1;cases cg (ao cells) y p <;> simp[wI]
 exact main ds
theorem yp(hl5:cells.length=5){x:Nat}(hx:x < 6):wv cells x=true↔yo (aK cells) (ao cells) (wI cells) x:=by
 have T:=fi hl5;have hall:fL (wI cells)=(((cw cells 0).length:Nat):Int):=by rw[←v5 (w:=wI cells) T,jd,lh hl5 (by decide)]
 unfold wv yo;rw[Bool.and_eq_true,decide_eq_true_eq,hall,jd,←lh hl5 hx,List.all_eq_true];refine and_congr Iff.rfl ⟨fun q k k6 k1 ku=>?_,fun q k hk=>?_⟩
 ·have:=q k (by unfold aD;refine List.mem_filter.mpr ⟨?_,decide_eq_true ku⟩;simp;omega);unfold eY at this;have:=of_decide_eq_true this;rw[jd,←lh hl5 k6];omega
 ·refine gT (fun k1 k5 ku=>?_) (fD hk);have:=q k (by omega) k1 ku;rw[jd,←lh hl5 (by omega)] at this;unfold eY;refine decide_eq_true ?_;omega
theorem pL:∀ l:List Int,l≠[]→∃ m,m∈l∧∀ x∈l,m≤x
 | []=>fun h=>absurd rfl h
 | [a]=>fun J=>⟨a,List.mem_singleton.mpr rfl,fun x hx=>by rw[List.mem_singleton.mp hx];exact Int.le_refl _⟩
 | a::b::l=>fun J=>by
  refine ab (fun m h1 h2=>?_) (pL (b::l) (by walk_at "s"))
  by_cases q:a≤m
  ·refine⟨a,List.mem_cons_self,fun x hx=>?_⟩;rcases List.mem_cons.mp hx with rfl | hx
   ·exact Int.le_refl _
   ·exact Int.le_trans q (h2 x hx)
  ·refine⟨m,List.mem_cons_of_mem _ h1,fun x hx=>?_⟩;rcases List.mem_cons.mp hx with rfl | hx
   ·omega
   ·exact h2 x hx
theorem AU(hl5:cells.length=5):y5 cells:=fun s hs=>by
 have T:=fi hl5;have hw:∀ y,0≤wI cells y:=fun y=>by unfold wI;omega
 have hL:=AQ hl5 (nQ hs);refine ab (fun m h1 h2=>?_) (pL (ds.map (fj cells s)) (by simp[ds]));refine⟨m,h1,h2,?_⟩;unfold yn;refine List.filter_congr fun x hx=>?_;have hx6:x < 6:=Nat.lt_succ_of_le (aL hx);refine ab (fun x0 hx0 e0=>?_) (List.mem_map.mp h1);have hx06:x0 < 6:=Nat.lt_succ_of_le (aL hx0);rw[Bool.eq_iff_iff,beq_iff_eq,yp hl5 hx6];constructor
 ·intro e;apply Classical.byContradiction;intro hn;refine ab (fun y hy6 hlt=>?_) (yr T hL hx6 hn (v5 T) (by rw[←v5 (w:=wI cells) T,jd];omega));have:=h2 (fj cells s y) (List.mem_map.mpr ⟨y,by simp[ds];omega,rfl⟩);unfold fj at this e;omega
 ·intro hm;have a1:=yq T hw hL hx6 hm x0 hx06;have a2:=h2 (fj cells s x) (List.mem_map.mpr ⟨x,hx,rfl⟩);unfold fj at a2 e0 ⊢;omega
variable{kx:X→Hp→Prop}
theorem iD:∀ u,u < 6→∀ p,p < 6→((Txt.lower (bH u)==Txt.lower (bH p))=decide (u=p))∧((Txt.lower (jD u)==Txt.lower (bH p))=decide (u=p))∧((Txt.lower (bH u)==Txt.lower (jD p))=decide (u=p))∧((Txt.lower (jD u)==Txt.lower (jD p))=decide (u=p)):=by walk_at "k"
theorem su{ups ends:List Nat}(hu:∀ i,i < 6→ups.getD i 0 < 6){p:Nat}(hp:p < 6):∀ n,n≤5→gh (cR ups ends n) (bH p)=(((List.range n).map (· +1)).filter fun k=>decide (ups.getD k 0=p)).map bH
 | 0=>fun J=>rfl
 | n+1=>fun hn=>by
  rw[kU,gh];rw[List.filter_append,List.map_append,List.range_succ,List.map_append,List.filter_append,List.map_append];have ih:=su (ends:=ends) hu hp n (by omega);unfold gh at ih;rw[ih];refine congrArg (_++ ·) ?_;have hl:=iD (ups.getD (n+1) 0) (hu _ (by omega)) p hp
  have e:(Txt.lower (if ends.getD (n+1) 0 > 4 then jD (ups.getD (n+1) 0) else bH (ups.getD (n+1) 0))==Txt.lower (bH p))=decide (ups.getD (n+1) 0=p):=by
   split
   ·exact hl.2.1
   ·exact hl.1
  rw[List.map_cons,List.map_nil,List.filter_cons,List.filter_cons,e]
  by_cases q:ups.getD (n+1) 0=p
  ·rw[if_pos (decide_eq_true q),if_pos (decide_eq_true q)];rfl
  ·rw[if_neg (by simpa using q),if_neg (by simpa using q)];rfl
theorem vW(ups ends:List Nat):∀ n,∀ p∈cR ups ends n,jW p
 | 0=>fun p h=>nomatch h
 | n+1=>fun p h=>by
  rw[kU] at h;rcases List.mem_append.mp h with h | h
  ·exact vW ups ends n p h
  ·rw[List.mem_singleton.mp h];refine⟨?_,by show(1:Nat)≤1000;decide⟩;show Str.length (if _ then jD _ else bH _)≤1000;split <;> (show(1:Nat)≤1000;decide)
theorem sv(ups ends:List Nat):∀ n,(cR ups ends n).length=n
 | 0=>rfl
 | n+1=>by rw[kU];rw[List.length_append,sv ups ends n,List.length_singleton]
theorem v6{out:List (Option (String × Str))}{due:List Str}(hd:∀ i,(due.getD i bX).length≤1000):∀ n,∀ p∈bC bc out due n,jW p
 | 0=>fun p h=>by
  have:∀ p∈bc,p.1.length≤1000∧p.2.length≤1000:=by walk_at "k"
  exact this p h
 | n+1=>fun p h=>by
  rw[kW] at h;rcases List.mem_append.mp h with h | h
  ·exact v6 hd n p h
  ·revert h
   cases out.getD (n+1) none with
   | some o=>intro h;exists h
   | none=>
    intro h;rcases List.mem_cons.mp h with rfl | h
    ·exact⟨by show(1:Nat)≤1000;decide,hd _⟩
    ·rw[List.mem_singleton.mp h];exact⟨by show(1:Nat)≤1000;decide,(by walk_at "k":bX.length≤1000)⟩
theorem pG{out:List (Option (String × Str))}{due:List Str}{k:Nat}(hk6:k < 6):∀ n,n≤5→(bC bc out due n).find? (fun p=>Txt.lower p.1==Txt.lower (jD k))=if k=0 then some (bH 0,Str.ofString "x") else if k≤n then (match out.getD k none with | none=>some (bH k,due.getD k bX) | some _=>none) else none
 | 0=>fun J=>by
  rw[show bC bc out due 0=bc from rfl,bc];rw[List.find?_cons,(iD 0 (by decide) k hk6).2.2.1]
  by_cases q:k=0
  ·subst q;rfl
  ·rw[if_neg q,if_neg (by omega),decide_eq_false (by omega)];dsimp only;rw[List.find?_cons,(iD 0 (by decide) k hk6).2.2.2,decide_eq_false (by omega)];rfl
 | n+1=>fun hn=>by
  have ih:=pG (out:=out) (due:=due) hk6 n (by omega);rw[kW];rw[List.find?_append,ih]
  by_cases q:k=0
  ·rw[if_pos q,if_pos q];rfl
  ·rw[if_neg q,if_neg q];have l1:=(iD (n+1) (by omega) k hk6).2.2.1;have l2:=(iD (n+1) (by omega) k hk6).2.2.2
   by_cases q2:k=n+1
   ·subst q2;rw[if_neg (by omega),if_pos (Nat.le_refl _)];cases out.getD (n+1) none with
    | some o=>rfl
    | none=>
     dsimp only;rw[List.find?_cons,l1,decide_eq_true rfl];rfl
   ·have fin:∀ M:Option (Str × Str),((if k≤n then M else none).or none)=if k≤n+1 then M else none:=fun M=>by
     by_cases q3:k≤n
     ·rw[if_pos q3,if_pos (by omega)];cases M <;> rfl
     ·rw[if_neg q3,if_neg (by omega)];rfl
    cases out.getD (n+1) none with
    | some o=>exact fin _
    | none=>
     dsimp only;rw[List.find?_cons,l1,decide_eq_false (by omega)];dsimp only;rw[List.find?_cons,l2,decide_eq_false (by omega)];exact fin _
theorem ri(h:(cW hand cell).2.2=some o):(cW hand cell).2.1=⟨#[]⟩:=by
 revert h
 unfold cW;split
 ·have h4:cell / 1000 % 10 % 4 < 4:=Nat.mod_lt _ (by decide);generalize cell / 1000 % 10 % 4=m at h4 ⊢;exact n4 (fun J=>rfl) (fun J=>rfl) (fun J=>rfl) (fun J=>rfl) m h4
 ·split
  ·intro J;rfl
  ·intro h;exists h
theorem wh(h:(cC cells).getD i none=some o):(aq cells).getD i ⟨#[]⟩=⟨#[]⟩:=by
 rw[List.getD_eq_getElem?_getD] at h ⊢;unfold cC aq at *;rw[List.getElem?_map] at h ⊢;cases e:(bS cells)[i]? with
 | none=>rfl
 | some l=>
  rw[e] at h;have h':l.2.2=some o:=h;show l.2.1=⟨#[]⟩;unfold bS at e;rcases List.mem_cons.mp (List.mem_of_getElem? e) with rfl | hm
  ·exists h'
  ·refine ab (fun c J t=>?_) (List.mem_map.mp hm);obtain rfl:=t;exact ri h'
theorem uc(hl5:cells.length=5)(h5:i≤5):(aq cells).getD i bX=(aq cells).getD i ⟨#[]⟩:=by
 have:=lY hl5 h5;rw[List.getD_eq_getElem?_getD,List.getD_eq_getElem?_getD];cases e:(aq cells)[i]? with
 | none=>exact absurd e this
 | some x=>rfl
theorem xS(hl5:cells.length=5):gD (lN cells) (gM cells) (aK cells) (aq cells) (bn cells):=by
 have T:=fi hl5
 have hu:∀ i,i < 6→(aK cells).getD i 0 < 6:=fun i hi=>by
  rcases Nat.eq_zero_or_pos i with rfl | h1
  ·rw[T.up0];decide
  ·have:=T.up i hi h1;omega
 refine⟨?_,Nat.le_trans (gO cells) (by decide),vW _ _ 5,?_,fun p hp=>?_,fun k h1 h5=>?_,fun k h1 h5=>T.up k (by omega) h1,by rw[g9,hl5]⟩
 ·unfold lN;rw[sv];decide
 ·refine v6 (fun i=>?_) 5;rw[List.getD_eq_getElem?_getD];cases e:(aq cells)[i]? with
  | none=>show bX.length≤1000;walk_at "k"
  | some x=>
   have:=kZ cells i;rw[List.getD_eq_getElem?_getD,e] at this;exact Nat.le_trans this (by decide)
 ·unfold lN;rw[su hu (by omega) 5 (Nat.le_refl _)];rfl
 ·unfold lL gM;rw[pG (by omega) 5 (Nat.le_refl _),if_neg (by omega),if_pos h5];have e0:Str.ofString ""=(⟨#[]⟩:Str):=by walk_at "k"
  cases q:(cC cells).getD k none with
  | none=>exact uc hl5 h5
  | some o=>
   rw[wh q];exact e0
theorem zy{out:List (Option (String × Str))}{due:List Str}:∀ n,n≤5→gh (bC bc out due n) (Str.ofString "P")=[Str.ofString "x",Str.ofString "x"]
 | 0=>fun J=>by show gh bc _=_;walk_at "k"
 | n+1=>fun hn=>by
  have ih:=zy (out:=out) (due:=due) n (by omega);rw[kW];unfold gh at ih ⊢;rw[List.filter_append,List.map_append,ih];have eP:Str.ofString "P"=jD 0:=by walk_at "k"
  rw[eP];have l1:=(iD (n+1) (by omega) 0 (by decide)).2.2.1;have l2:=(iD (n+1) (by omega) 0 (by decide)).2.2.2;cases out.getD (n+1) none with
  | some o=>rfl
  | none=>
   dsimp only;rw[List.filter_cons,l1,decide_eq_false (by omega),if_neg (by decide),List.filter_cons,l2,decide_eq_false (by omega),if_neg (by decide)];rfl
variable{kx:X→Hp→Prop}
theorem yW(hl5:cells.length=5):(aK cells).length=6∧∀ i,i < 6→(aK cells).getD i 0 < 6:=by
 have T:=fi hl5;refine⟨T.ul,fun i hi=>?_⟩;rcases Nat.eq_zero_or_pos i with rfl | h1
 ·rw[T.up0];decide
 ·have:=T.up i hi h1;omega
theorem AN(ok2:dz K pm)(hsc:Sc env (aj 30) (own env))(hscr:scr.length≤63){kxs:X→ai→Hp→Prop}(h:∀ ρ,ks (.ret (.bool true)) ρ []):
  Ex prog w K (d+9) ⟨true,top⟩ env [eC scr] (execs (aH 0) env) [] ks kxs:=by
 have hl5:(qJ scr).length=5:=rfl;have ok:=ok2.ok;have T:=fi hl5;have I:=xS hl5;have hup:∀ i,1≤i→i≤5→(aK (qJ scr)).getD i 0 < i:=fun i h1 h5=>T.up i (by omega) h1;refine En (d:=d+8) ok hsc hscr ?_;refine Eo (d:=d+3) ok hsc hl5 ?_;refine Er (d:=d+3) ok hsc hl5 ?_;refine Et (d:=d+3) ok hsc hl5 ?_;refine Eu (d:=d+3) ok hsc hl5 ?_;refine Ew (d:=d+3) ok hsc hl5 ?_;refine Ey (d:=d+3) ok hsc hl5 ?_;refine Ez (d:=d+3) ok hsc hl5 ?_;refine EA (d:=d+3) ok hsc hl5 (qZ hl5) ?_;refine EB (d:=d+3) ok hsc hl5 (yW hl5) ?_;refine Cw ok2 hsc hup T.pre I ?_;refine Cy ok2 hsc hl5 hup I ?_;refine Cz ok2 hsc hl5 hup I ?_;refine CA ok2 hsc hl5 hup I ?_;refine CB ok2 hsc hl5 hup I ?_;refine fB (fun p hm=>((.cons₂ _ (.cons₂ _ (.cons₂ _ (.cons₂ _ (.cons₂ _ (.cons₂ _ (.cons₂ _ (.cons₂ _ (.cons₂ _ (.cons _ (.cons₂ _ (.cons₂ _ (.cons₂ _ (.cons₂ _ (.cons _ (.cons _ (.cons₂ _ .slnil))))))))))))))))):List.Sublist _ _).subset hm) ?_;refine CC ok2 hsc hl5 T ?_;refine CD ok2 hsc hl5 T ?_;refine CE ok2 hsc hl5 T ?_;refine CF ok2 hsc hl5 T ?_;refine CG ok2 hsc hl5 T ?_;refine CI ok2 hsc hl5 T (AU hl5) ?_;refine CJ ok2 hsc hl5 T (AI hl5) ?_;refine CK ok2 hsc hl5 T ?_;refine CL ok2 hsc hl5 T ?_;refine CM ok2 hsc hl5 T I (zy 5 (Nat.le_refl _)) ?_;refine CN ok2 hsc hl5 T ?_;exact CO ok2 hsc hl5 T (h _)
theorem AO(ok2:dz K pm)(hscr:scr.length≤63)(h:k (.bool true) []):Pr prog w K (d+10) ⟨true,top⟩ [.lst (scr.map V.int)] (fun vs=>call (.ref 377) vs) [] k kx:=by
 refine bp (ρ0:=[eC scr]) (ok2.ok.fn (377,30,["script"]) ∅) rfl rfl fun env hsc=>?_;have e:av 30=aH 0:=by unfold aH;rfl
 show Ex _ _ _ _ _ _ _ (execs (av 30) env) _ _ _;rw[e];exact AN ok2 hsc hscr fun J=>h
theorem wz(P:Params):yv=(KF P).map (·.1):=by kernel_rfl
theorem AM(P:Params):nsIn (KF P) mainGlobals (Str.ofString "law")=some (some (.ref 377)):=by kernel_rfl
theorem AL:∀ a∈yv,a < 378∧a≠cP:=by walk_at "k"
theorem Bu(P:Params):(KF P).lookup 352=some ut:=by kernel_rfl
set_option tactic.hygienic true in
theorem wq:∀ {K:Frag} {a:Addr} {o:Obj},K.lookup a=some o→(a,o)∈K
 | [],_,_,h=>nomatch h
 | (b,x)::K,a,o,h=>by
  rw[List.lookup_cons] at h;split at h
  ·rename_i e;exists h;rw[beq_iff_eq.mp e];exact List.mem_cons_self
  ·exact List.mem_cons_of_mem _ (wq h)
theorem DI{s₀:Shared}{mb:Str→Option Value}{q:Program}{R:WRecords}{XP:(Str→Option Value)→Heap→Prop}(G:Ground q loose R XP w s₀ mg mb s₁.heap)(hY:Yf s₀=Ya w)(hk:∀ b o,s₀.heap.get? b=some o→s₁.heap.get? b=some o)(hg:s₁.gens= #[]):St (KF w.params) w.params callerA [] [] [] s₁:=by
 have y1:=congrArg Prod.fst hY;have y2:=congrArg (fun x=>x.2.1) hY;have y3:=congrArg (fun x=>x.2.2) hY;have kin0:(KF w.params).In s₀.heap:=Frag.in_of (wz _) y1;refine⟨kin0.keeps hk,fun a o e=>?_,⟨⟨mg,G.T.g⟩,⟨mb,G.T.b,G.T.builtins⟩,G.T.nolimit,fun a ha=>?_⟩,fun J h=>(nomatch h),fun J h=>(nomatch h),fun J h=>(nomatch h),rfl,List.nodup_nil,fun J h=>(nomatch h),fun r l h=>(nomatch h),hg,⟨[],rfl,fun J h=>(nomatch h)⟩,⟨#[],hk _ _ y2,trivial,fun J J h=>(nomatch h)⟩,fun v h=>(nomatch h)⟩
 ·have hm:a∈yv:=by rw[wz w.params];exact List.mem_map.mpr ⟨(a,o),wq e,rfl⟩
  exact AL a hm
 ·have h:=List.all_eq_true.mp y3 a (List.mem_range.mpr ha);refine af (fun o ho=>?_) (Option.isSome_iff_exists.mp h);exact⟨o,hk _ _ ho⟩
theorem yw{H':Hp}(S:St K P callerA [] [] [] s₁)(S':St K P callerA σ' [] H' s')(g:Go [] [] [] s₁ σ' s')(h0:s₁.heap.get? cP=some (tabObj #[]))(hc:∃ o vs,s₁.heap.get? 352=some o∧o.cls=.type "code"∧o.data=.fields vs∧vs[11]? =some (.ref cP)):OldK s₁.heap s'.heap:=by
 refine⟨fun b o e=>?_,fun b o e=>let ⟨o',h,_⟩:=g.dom b o e;⟨o',h⟩⟩
 by_cases hb:b=cP
 ·subst hb;obtain⟨ps,hp,_⟩:=S'.tb;obtain rfl:=Option.some.inj (h0.symm.trans e)
  revert hc;refine EP fun oc vs c1 c2 c3 c4=>?_
  refine .inr (.inl ⟨⟨352,oc,vs,c1,c2,c3,c4⟩,rfl, #[],ps,rfl,?_⟩);rw[hp,Array.empty_append]
 ·exact .inl (g.ext b o e hb (fun h=>nomatch h) (fun h=>nomatch h) (.inl fun h=>nomatch h))
theorem pF{R:WRecords}{d:WData}(x:WShape.has R d (.list .int)=true):∃ ns:List Int,d=.list (ns.map .int):=let ⟨_,e,y⟩:=hasW_list x;let ⟨ns,e'⟩:=items_int y;⟨ns,by rw[e,e']⟩
theorem EU:OpenLaw.pre PySem.Challenge.rw_tc0090_01=.and (.not (.lt (.lit (.int 63)) (.len (.arg 0)))) (.lit (.bool true)):=rfl
theorem yt{R:WRecords}(h:(OpenLaw.pre PySem.Challenge.rw_tc0090_01).holds R {args:=[.list (scr.map .int)]}=true):scr.length≤63:=by
 have h2:∀ b,decide ((63:Int) < (((scr.map WData.int).length:Nat):Int))=b→(WTm.and (.lit (.bool (!b))) (.lit (.bool true))).holds R {args:=[.list (scr.map .int)]}=true:=fun b q=>by subst q;exact h
 rw[List.length_map] at h2
 by_cases hl:(63:Int) < (scr.length:Int)
 ·exact ft (h2 true (decide_eq_true hl))
 ·omega
theorem Bi{R:WRecords}{args:List WData}{vals:List Value}(hs:WShape.hasAll R args [.list .int]=true)(hw:WellAll w.params h vals args):
  ∃ (scr:List Int) (a:Addr) (vs:List Value),args=[.list (scr.map .int)]∧vals=[.ref a]∧h.get? a=some {cls:=.type "list",data:=.seq vs.toArray}∧WellAll w.params h vs (scr.map .int):=by
 refine aV (fun d r q t=>?_) (hasAllW_cons hs);obtain rfl:=q;revert t;refine am fun h1 h2=>?_;obtain rfl:=hasAllW_nil h2;refine af (fun ns t=>?_) (pF h1);obtain rfl:=t;cases hw with
 | cons h3 h4=>
  exists h4;cases h3 with
  | list h5 h6=>exact⟨ns,_,_,rfl,rfl,h5,h6⟩
theorem qw{h:Heap}{σ Z:List Addr}{P:Params}:∀ {vs:List Value} {ns:List Int},WellAll P h vs (ns.map .int)→ak P h σ Z (ns.map V.int) vs
 | _,[]=>fun x=>by exists x;rfl
 | _,n::ns=>fun x=>by
  cases x with
  | cons h1 h2=>
   exists h1;exact⟨_,_,rfl,by exact⟨_,rfl⟩,qw h2⟩
theorem BQ{R:WRecords}{cl:Str→Option Addr}{la:Addr}{xs:List WData}{as:List Addr}(x:ReadsAllW R cl h [.ref la] [.list xs] as):la∈as:=by
 cases x with
 | cons h1 h2=>
  exists h1;exact List.mem_cons_self
theorem FT:WalkX qv d9 (fun J J=>True) Yf Ya PySem.Challenge.rw_tc0090_01.row.toRowW q9 [] fun f vs=>PySem.call f vs:=by
 intro w s₀ s₁ mg mb G hY a o pm cd doc dV kV ho hd hcr hdf hmg hgens args vals as L hpre hlay hrd hwell hlow;refine am (fun hsh hho=>?_) (pre_splitW (r:=PySem.Challenge.rw_tc0090_01.row.toRowW) hpre);have S:=DI G hY L.keeps hgens;refine uw (fun scr la vs q t=>?_) (Bi (w:=w) hsh hwell);obtain rfl:=q;revert t;refine am fun q t=>?_;obtain rfl:=q;revert t;refine am fun hla hvs=>?_;have hmost:scr.length≤63:=yt hho;have h377:mg (Str.ofString "law")=some (.ref 377):=dH S.kin G.T.g (AM w.params)
 have ha:a=377:=by
  have e:mg (Str.ofString "law")=some (.ref a):=hmg;rw[h377] at e;exists e;rfl
 subst ha;have y2:=congrArg (fun x=>x.2.1) hY;have h0:s₁.heap.get? cP=some (tabObj #[]):=L.keeps _ _ y2;have hal:∀ b,b < 378→∃ o,s₀.heap.get? b=some o:=fun b hb=>Option.isSome_iff_exists.mp (List.all_eq_true.mp (show((List.range 378).all fun a=>(s₀.heap.get? a).isSome)=true from congrArg (fun x=>x.2.2) hY) b (List.mem_range.mpr hb))
 have hlow':378≤la:=by
  have hin:la∈as:=BQ hrd;have h1:=(L.within.2.2 la hin).1;refine af (fun o ho=>?_) (hal 377 (by decide));have h2:(377:Nat) < s₀.heap.objs.size:=Heap.lt_size ho;show(378:Nat)≤la;omega
 refine AO (K:=KF w.params) (d:=0) (k:=fun v J=>v=.bool true) (kx:=fun J J=>False) (top:=none) (Em w.params) hmost rfl callerA [] [] s₁ [.ref la] _ _ ⟨by decide,by decide,fun J=>rfl,rfl,fun J h=>nomatch h⟩ S ?_ ?_ ?_
 ·refine⟨_,_,rfl,?_,by rfl⟩;exact⟨la,vs.toArray,rfl,⟨hlow',fun h=>(nomatch h),fun h=>(nomatch h)⟩,⟨_,hla⟩,qw hvs⟩
 ·intro v s' σ' x H' g S' hv hx;subst hx;subst hv;exact⟨.inl ⟨_,_,[],rfl,fun J=>rfl,ReadsW.bool true,by wrow_post,fun J=>⟨List.nodup_nil,fun J hm=>(nomatch hm)⟩⟩,yw S S' g h0 ⟨_,_,S.at (Bu _),rfl,rfl,rfl⟩,g.os,.of_eq S'.gens⟩
 ·intro e s' σ' x H' g S' hx h;exact h.elim
end Mine.Internal
theorem PySem.Challenge.cw_tc0090_01_holds : PySem.Challenge.rw_tc0090_01.Holds :=
  Mine.Internal.Ek Mine.Internal.FT
