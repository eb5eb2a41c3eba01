import PyProof.Rows.All
import PyProof.AttrMissHeap
import PyProof.DictDisplay
import PyProof.EqLayable
import PyProof.GenArm
import PyProof.ZipIter
import PyProof.TupleOfSeq
import KE.KSlice
import KE.KIsAll
import KE.KSortAsk
import KE.KSortTup
import Wide.FinOn
import OpenK.AllK
import Wide.All
import PySem.Challenge.RW_jf0029_01
open PySem PySem.W PyProof.Rows PySem.Calls
set_option Elab.async false
set_option linter.all false
set_option maxRecDepth 100000
set_option maxHeartbeats 0
set_option genSizeOf false
set_option genInjectivity false
set_option tactic.hygienic false
set_option compiler.extract_closed false
set_option bootstrap.genMatcherCode false
namespace Mine
theorem lb {n m:Nat}(h:Nat.ble n m=true):n≤m:=Nat.le_of_ble_eq_true h
theorem q1 {x0:Nat}{x1:Nat}{x2:Nat}(h0:(x0=(x1 - x2))) (h1:(x2<x1)):((x1 - (x2+1))<x0):=by first | lia | omega
theorem q2 {x0:Int}(h0:(((0:Int)≤x0)∧(x0<(4:Int)))):((x0=(0:Int))∨((x0=(1:Int))∨((x0=(2:Int))∨(x0=(3:Int))))):=by first | lia | omega
theorem q4 {x0:Nat}{x1:Nat}{x2:Nat}(h0:(x0=x1)) (h1:(x2<x0)):(x2<x1):=by first | lia | omega
theorem q8 {x0:Nat}(h0:(x0≤1000)):((↑x0:Int)<(2:Int)^63):=by first | lia | omega
theorem q9 {x0:Nat}{x1:Nat}(h0:(x0≤x1)) (h1:(x1<(x0+1))):(x1=x0):=by first | lia | omega
theorem q10 {x0:Nat}{x1:Nat}{x2:Nat}{x3:Nat}(h0:(x0≤3)) (h1:(((x1+1)+x2)=x0)) (h2:(x2<x0)) (h3:(x3=(x0 - x2))):(x3≤1000):=by first | lia | omega
theorem q11 {x0:Nat}{x1:Nat}{x2:Nat}(h0:(x0=x1)) (h1:(x2≤x1)) (h2:(x1≤x2)):(x0≤x2):=by first | lia | omega
theorem q12 {x0:Nat}{x1:Int}(h0:(x0≤4)) (h1:(((0:Int)≤x1)∧(x1≤((4:Int) * (↑x0:Int))))):(((0:Int)≤x1)∧(x1≤(100:Int))):=by first | lia | omega
theorem q14 {x0:Nat}(h0:(x0≤900)):(x0≤1000):=by first | lia | omega
theorem q15 {x0:Nat}{x1:Nat}  : ((((↑x0:Int) - (↑x1:Int)) - (1:Int))=((↑x0:Int) - ((↑x1:Int)+(1:Int)))):=by first | lia | omega
theorem q17 {x0:Nat}{x1:Nat}(h0:(x0≤x1)):((x0+1)≤(x1+1)):=by first | lia | omega
theorem q18 {x0:Nat}(h0:(x0≤1000)):((0:Int)≤(↑x0:Int)):=by first | lia | omega
theorem q20 {x0:Nat}{x1:Nat}(h0:(x0≤x1)) (h1:(x1≤x0)):(x0=x1):=by first | lia | omega
theorem q22 {x0:Int}(h0:((0:Int)≤x0)) (h1:(x0<(3:Int))):((1≤(((1:Int)+x0)).toNat)∧((((1:Int)+x0)).toNat≤3)):=by first | lia | omega
theorem q23 {x0:Nat}{x1:Nat}  : (((x0+1)+x1)=(x0+(x1+1))):=by first | lia | omega
theorem q24 {x0:Nat}{x1:Nat}(h0:(x0≤x1)) (h1:¬(x0<x1)):(x0=x1):=by first | lia | omega
theorem q25 {x0:Nat}{x1:Nat}  : ((x0+(x1+1))=((x0+1)+x1)):=by first | lia | omega
theorem q28 {x0:Nat}{x1:Nat}{x2:Nat}(h0:(((x0+1)+x1)=x2)):(x1<x2):=by first | lia | omega
theorem q29 {x0:Nat}{x1:Nat}{x2:Nat}(h0:(x0=x1)) (h1:(x2<x1)):(x2<x0):=by first | lia | omega
theorem q31 {x0:Nat}{x1:Nat}(h0:(x0<x1)):((↑x0:Int)<(↑x1:Int)):=by first | lia | omega
theorem q33 {x0:Nat}{x1:Nat}{x2:Nat}(h0:(x0≤100)) (h1:(x1=x2)) (h2:(x2<x0)):(x1≤1000):=by first | lia | omega
theorem q34 {x0:Nat}{x1:Nat}{x2:Nat}(h0:(((x0+1)+x1)=x2)):((x0+(x1+1))=x2):=by first | lia | omega
theorem q36 {x0:Nat}{x1:Nat}(h0:(x0≤3)) (h1:(x1=x0)):(x1≤1000):=by first | lia | omega
theorem q37 {x0:Int}(h0:((0:Int)<x0)) (h1:(x0≤(4:Int))):((x0).toNat<5):=by first | lia | omega
theorem q38 {x0:Nat}{x1:Nat}{x2:Nat}(h0:(x0≤10)) (h1:(x1=x0)) (h2:(x2<x0)):(x2≤1000):=by first | lia | omega
theorem q39 {x0:Nat}(h0:(x0≤1000)):((-(2:Int)^63)≤(↑x0:Int)):=by first | lia | omega
theorem q40 {x0:Nat}{x1:Nat}(h0:((x0+1)≤x1)):(x0≤x1):=by first | lia | omega
theorem q42 {x0:Nat}{x1:Nat}(h0:((0+x0)=x1)):(x1≤x0):=by first | lia | omega
theorem q44 {x0:Nat}  : ((((3 * x0)+6)+3)≤((3 * (x0+1))+6)):=by first | lia | omega
theorem q45 {x0:Nat}{x1:Nat}(h0:(x0<x1)):((0:Int)<((↑x1:Int) - (↑x0:Int))):=by first | lia | omega
theorem q47 {x0:Nat}{x1:Nat}(h0:¬(x0=x1)) (h1:¬(x1<x0)):¬(x1<(x0+1)):=by first | lia | omega
theorem q48 {x0:Nat}{x1:Nat}  : (x0≤(x0+x1)):=by first | lia | omega
theorem q49 {x0:Nat}{x1:Nat}{x2:Nat}(h0:((x0+(x1+1))≤x2)):(((x0+1)+x1)≤x2):=by first | lia | omega
theorem q50 {x0:Nat}(h0:(x0≤4)):(x0≤100):=by first | lia | omega
theorem q51 {x0:Nat}(h0:(0<x0)) (h1:(x0≤1000)):(((-(1000000:Int))≤(↑x0:Int))∧((↑x0:Int)≤(1000000:Int))):=by first | lia | omega
theorem q55 {x0:Nat}(h0:(x0<32^3)):((1+x0)<40000):=by first | lia | omega
theorem q56 {x0:Nat}  : (((x0+2)+1)≤((x0+1)+2)):=by first | lia | omega
theorem q57 {x0:Nat}{x1:Nat}(h0:(x0<64)) (h1:(x1=x0)):(x1<64):=by first | lia | omega
theorem q58 {x0:Nat}{x1:Nat}(h0:(x0≤x1)):(x0≤(x1+1)):=by first | lia | omega
theorem q59 {x0:Nat}{x1:Nat}(h0:(x0≤10)) (h1:(x1=x0)):(x1≤1000):=by first | lia | omega
theorem q60 {x0:Nat}{x1:Nat}(h0:(x0<x1)):(x0<(x1+1)):=by first | lia | omega
theorem q61 {x0:Nat}{x1:Nat}(h0:(x0≤x1)) (h1:¬(x0<x1)):(((↑x1:Int) - (↑x0:Int))≤(0:Int)):=by first | lia | omega
theorem q62 {x0:Nat}(h0:((0<x0)∧(x0≤10))):(x0≤1000):=by first | lia | omega
theorem q64 {x0:Nat}{x1:Nat}(h0:(x0<x1)):(x0≤x1):=by first | lia | omega
theorem q65 {x0:Nat}(h0:(x0<64)):(x0≤100):=by first | lia | omega
theorem q66 {x0:Nat}(h0:((0<x0)∧(x0≤10))):¬((↑x0:Int)=(0:Int)):=by first | lia | omega
theorem q67 {x0:Nat}(h0:(x0<3)):(x0≤1000):=by first | lia | omega
theorem q68 {x0:Nat}(h0:¬(x0=0)):¬((↑x0:Int)=(0:Int)):=by first | lia | omega
theorem q69 {x0:Nat}{x1:Nat}  : ¬(x0=((x0+1)+x1)):=by first | lia | omega
theorem q70 {x0:Nat}  : ((x0+2)≤(x0+3)):=by first | lia | omega
theorem q71 {x0:Nat}{x1:Nat}(h0:(x0=x1)):(x1≤x0):=by first | lia | omega
theorem q72 {x0:Nat}(h0:(x0<64)):(x0≤16777216):=by first | lia | omega
theorem q73 {x0:Nat}(h0:(x0≤3)):(x0≤1000):=by first | lia | omega
theorem q75 {x0:Nat}(h0:(x0≤100)):(x0≤1000):=by first | lia | omega
theorem q76 {x0:Nat}(h0:(0<x0)) (h1:(x0≤1000)):¬((↑x0:Int)=(0:Int)):=by first | lia | omega
theorem q77 {x0:Nat}(h0:(x0≤10)):(x0≤1000):=by first | lia | omega
theorem q79 {x0:Nat}  : ¬((↑x0:Int)<(0:Int)):=by first | lia | omega
set_option backward.match.sparseCases false
noncomputable abbrev pw:Program:=PySem.Challenge.pw_jf0029_01
abbrev rl:OpenLaw:=PySem.Challenge.rw_jf0029_01
structure SP where
 b:List Stmt:=[]
 o:List Stmt:=[]
 e:Expr:=default
noncomputable def sP (s:Stmt):SP:=match s with
 | .ClassDef _ _ _ b _ _ _ _ _ _ _=>{ b:=b }
 | .FunctionDef _ _ b _ _ _ _ _ _ _=>{ b:=b }
 | .For t _ b _ _=>{ b:=b,e:=t }
 | .While t b _ _=>{ b:=b,e:=t }
 | .If _ b o _=>{ b:=b,o:=o }
 | .Assign _ v _=>{ e:=v }
 | .Return (some e) _=>{ e:=e }
 | _=>{}
noncomputable def aox (s:Stmt):List Stmt:=(sP s).b
structure XP where
 e:Expr:=default
 g:Comprehension:=⟨default,default,[],0⟩
 c:Scope:=default
 p:Pos:=default
noncomputable def xP (e:Expr):XP:=match e with
 | .ListComp e (g::_) c p=>⟨e,g,c,p⟩
 | .GeneratorExp e (g::_) c p=>⟨e,g,c,p⟩
 | .Call _ (e::_) _ _=>{ e:=e }
 | _=>{}
noncomputable def D (i:Nat):Stmt:=pw.main.body.getD i (.Pass default)
noncomputable def D2 (i j:Nat):Stmt:=(aox (D i)).getD j (.Pass default)
noncomputable def apY:Stmt→Str
 | .FunctionDef n _ _ _ _ _ _ _ _ _=>n
 | _=>Str.empty
noncomputable def ab8:Stmt→Arguments
 | .FunctionDef _ a _ _ _ _ _ _ _ _=>a
 | _=>default
noncomputable def aaa (s:Stmt):List Stmt:=(sP s).b
noncomputable def abm:Stmt→Scope
 | .FunctionDef _ _ _ _ _ _ sc _ _ _=>sc
 | _=>default
noncomputable def kF (st:Stmt) (name qual:Str) (g:Addr) (cl:List (Str × Addr)) (dflt kwd doc pm:Value) (ann:Option Addr) (code ct:Value) (b:Addr):FuncData:=
 { name:=name,qualname:=qual,params:=ab8 st,body:=.stmts (aaa st),scope:=abm st,globals:=g,closure:=cl,defaults:=dflt,kwdefaults:=kwd,doc:=doc,pyModule:=pm,annotations:=ann,code:=code,closureTuple:=ct,builtins:=b }
noncomputable def agQ (st:Stmt) (t:Tok):Value:=match docOf (aaa st) with | some s=>.str s t | none=>.none
noncomputable def kE (P:Params) (k:Str) (t:Tok) (v:Value):DictEntry:=⟨reduceHash (P.strHash k.cps),.str k t,v⟩
noncomputable def K (P:Params):List (Nat × Obj):=[
 (3,⟨.type "dict",none,.dict #[kE P "__name__" 165 (.str "law_jf0029_01" 632),kE P "__doc__" 166 (.none),kE P "__package__" 167 (.none),kE P "__loader__" 168 (.builtin "__main__.__loader__#opaque"),kE P "__spec__" 169 (.none),kE P "__annotations__" 170 (.ref 6),kE P "__builtins__" 171 (.ref 4),kE P "__file__" 173 (.str "/claim/cut.py" 172),kE P "__cached__" 174 (.none),kE P "_wall" 193 (.ref 21),kE P "_tuplegetter" 252 (.ref 60),kE P "Multiset" 399 (.ref 178),kE P "_gcd" 407 (.ref 189),kE P "VariableWithCount" 548 (.ref 263),kE P "_make_variable_generator_factory" 554 (.ref 271),kE P "_commutative_single_variable_partiton_iter" 569 (.ref 278),kE P "commutative_sequence_variable_partition_iter" 585 (.ref 285),kE P "extended_euclid" 599 (.ref 292),kE P "base_solution_linear" 614 (.ref 299),kE P "solve_linear_diop" 621 (.ref 304),kE P "generator_chain" 631 (.ref 311),kE P "_law_ways" 644 (.ref 318),kE P "_law_rows" 650 (.ref 323),kE P "_law_due" 656 (.ref 328),kE P "law" 662 (.ref 333)] 25,#[]⟩),
 (21,⟨.type "function",none,.func (kF (D 0) "_wall" "_wall" 3 [] (.none) (.none) (.none) (.str "__main__" 164) none (.ref 20) (.none) 0),#[]⟩),
 (24,⟨.type "dict",none,.dict #[kE P "__module__" 203 (.str "matchpy.utils" 194),kE P "__qualname__" 205 (.str "_tuplegetter" 204),kE P "__firstlineno__" 207 (.int 5 206),kE P "__init__" 216 (.ref 35),kE P "__get__" 225 (.ref 43),kE P "__set__" 234 (.ref 50),kE P "__delete__" 242 (.ref 57),kE P "__static_attributes__" 245 (.ref 58)] 8,#[]⟩),
 (35,⟨.type "function",none,.func (kF (D2 2 0) "__init__" "_tuplegetter.__init__" 3 [] (.none) (.none) (.none) (.str "matchpy.utils" 194) none (.ref 34) (.none) 0),#[]⟩),
 (36,⟨.type "tuple",none,.seq #[.none] 0,#[]⟩),
 (42,⟨.type "code",none,.fields #[.str "__get__" 217,.str "_tuplegetter.__get__" 218,.str "/claim/cut.py" 219,.int 11 0,.int 3 0,.int 0 0,.int 0 0,.int 3 0,.ref 37,.bool true,.int 181 0,.ref 38,.none,.ref 39,.ref 40,.ref 41,.int 223 0,.int 11 0,.str "/claim/cut.py" 224],#[]⟩),
 (43,⟨.type "function",none,.func (kF (D2 2 1) "__get__" "_tuplegetter.__get__" 3 [] (.ref 36) (.none) (.none) (.str "matchpy.utils" 194) none (.ref 42) (.none) 0),#[]⟩),
 (50,⟨.type "function",none,.func (kF (D2 2 2) "__set__" "_tuplegetter.__set__" 3 [] (.none) (.none) (.none) (.str "matchpy.utils" 194) none (.ref 49) (.none) 0),#[]⟩),
 (57,⟨.type "function",none,.func (kF (D2 2 3) "__delete__" "_tuplegetter.__delete__" 3 [] (.none) (.none) (.none) (.str "matchpy.utils" 194) none (.ref 56) (.none) 0),#[]⟩),
 (59,⟨.type "dict",none,.dict #[kE P "__module__" 203 (.str "matchpy.utils" 194),kE P "__firstlineno__" 207 (.int 5 206),kE P "__init__" 216 (.ref 35),kE P "__get__" 225 (.ref 43),kE P "__set__" 234 (.ref 50),kE P "__delete__" 242 (.ref 57),kE P "__static_attributes__" 245 (.ref 58),kE P "__dict__" 247 (.ref 61),kE P "__weakref__" 249 (.ref 62),kE P "__doc__" 250 (.none)] 4,#[]⟩),
 (60,⟨.type "type",none,.cls { name := "_tuplegetter",bases:=[.type "object"],mro:=[.ref 60,.type "object"],ns:=59,qualname := "_tuplegetter",hasDict:=true,slotNames:=[],subclasses:=[],abstract:=false,collection:=none,hasDel:=false },#[none,none,(some (.str "_tuplegetter" 196)),(some (.str "_tuplegetter" 204)),(some (.builtin "object.__new__")),(some (.bool true))]⟩),
 (67,⟨.type "dict",none,.dict #[kE P "__module__" 260 (.str "matchpy.utils" 194),kE P "__qualname__" 262 (.str "Multiset" 261),kE P "__firstlineno__" 264 (.int 23 263),kE P "__init__" 270 (.ref 78),kE P "__getitem__" 279 (.ref 85),kE P "__setitem__" 285 (.ref 90),kE P "__contains__" 293 (.ref 97),kE P "__len__" 302 (.ref 104),kE P "__iter__" 311 (.ref 111),kE P "items" 317 (.ref 116),kE P "distinct_elements" 324 (.ref 123),kE P "copy" 331 (.ref 130),kE P "add" 339 (.ref 137),kE P "__eq__" 345 (.ref 142),kE P "__ne__" 353 (.ref 149),kE P "__le__" 359 (.ref 154),kE P "__add__" 369 (.ref 161),kE P "__sub__" 379 (.ref 168),kE P "__mul__" 389 (.ref 175),kE P "__static_attributes__" 391 (.ref 176)] 20,#[]⟩),
 (72,⟨.type "tuple",none,.seq #[] 0,#[]⟩),
 (73,⟨.type "tuple",none,.seq #[.ref 72] 0,#[]⟩),
 (77,⟨.type "code",none,.fields #[.str "__init__" 265,.str "Multiset.__init__" 266,.str "/claim/cut.py" 267,.int 25 0,.int 2 0,.int 0 0,.int 0 0,.int 3 0,.ref 74,.bool true,.int 181 0,.ref 75,.none,.none,.none,.ref 76,.int 268 0,.int 25 0,.str "/claim/cut.py" 269],#[]⟩),
 (78,⟨.type "function",none,.func (kF (D2 3 0) "__init__" "Multiset.__init__" 3 [] (.ref 73) (.none) (.none) (.str "matchpy.utils" 194) none (.ref 77) (.none) 0),#[]⟩),
 (84,⟨.type "code",none,.fields #[.str "__getitem__" 271,.str "Multiset.__getitem__" 272,.str "/claim/cut.py" 273,.int 36 0,.int 2 0,.int 0 0,.int 0 0,.int 3 0,.ref 79,.bool true,.int 181 0,.ref 80,.none,.ref 81,.ref 82,.ref 83,.int 277 0,.int 36 0,.str "/claim/cut.py" 278],#[]⟩),
 (85,⟨.type "function",none,.func (kF (D2 3 1) "__getitem__" "Multiset.__getitem__" 3 [] (.none) (.none) (.none) (.str "matchpy.utils" 194) none (.ref 84) (.none) 0),#[]⟩),
 (89,⟨.type "code",none,.fields #[.str "__setitem__" 280,.str "Multiset.__setitem__" 281,.str "/claim/cut.py" 282,.int 42 0,.int 3 0,.int 0 0,.int 0 0,.int 3 0,.ref 86,.bool true,.int 181 0,.ref 87,.none,.none,.none,.ref 88,.int 283 0,.int 42 0,.str "/claim/cut.py" 284],#[]⟩),
 (90,⟨.type "function",none,.func (kF (D2 3 2) "__setitem__" "Multiset.__setitem__" 3 [] (.none) (.none) (.none) (.str "matchpy.utils" 194) none (.ref 89) (.none) 0),#[]⟩),
 (97,⟨.type "function",none,.func (kF (D2 3 3) "__contains__" "Multiset.__contains__" 3 [] (.none) (.none) (.none) (.str "matchpy.utils" 194) none (.ref 96) (.none) 0),#[]⟩),
 (103,⟨.type "code",none,.fields #[.str "__len__" 294,.str "Multiset.__len__" 295,.str "/claim/cut.py" 296,.int 55 0,.int 1 0,.int 0 0,.int 0 0,.int 3 0,.ref 98,.bool true,.int 181 0,.ref 99,.none,.ref 100,.ref 101,.ref 102,.int 300 0,.int 55 0,.str "/claim/cut.py" 301],#[]⟩),
 (104,⟨.type "function",none,.func (kF (D2 3 4) "__len__" "Multiset.__len__" 3 [] (.none) (.none) (.none) (.str "matchpy.utils" 194) none (.ref 103) (.none) 0),#[]⟩),
 (111,⟨.type "function",none,.func (kF (D2 3 5) "__iter__" "Multiset.__iter__" 3 [] (.none) (.none) (.none) (.str "matchpy.utils" 194) none (.ref 110) (.none) 0),#[]⟩),
 (115,⟨.type "code",none,.fields #[.str "items" 312,.str "Multiset.items" 313,.str "/claim/cut.py" 314,.int 66 0,.int 1 0,.int 0 0,.int 0 0,.int 3 0,.ref 112,.bool true,.int 181 0,.ref 113,.none,.none,.none,.ref 114,.int 315 0,.int 66 0,.str "/claim/cut.py" 316],#[]⟩),
 (116,⟨.type "function",none,.func (kF (D2 3 6) "items" "Multiset.items" 3 [] (.none) (.none) (.none) (.str "matchpy.utils" 194) none (.ref 115) (.none) 0),#[]⟩),
 (123,⟨.type "function",none,.func (kF (D2 3 7) "distinct_elements" "Multiset.distinct_elements" 3 [] (.none) (.none) (.none) (.str "matchpy.utils" 194) none (.ref 122) (.none) 0),#[]⟩),
 (130,⟨.type "function",none,.func (kF (D2 3 8) "copy" "Multiset.copy" 3 [] (.none) (.none) (.none) (.str "matchpy.utils" 194) none (.ref 129) (.none) 0),#[]⟩),
 (137,⟨.type "function",none,.func (kF (D2 3 9) "add" "Multiset.add" 3 [] (.none) (.none) (.none) (.str "matchpy.utils" 194) none (.ref 136) (.none) 0),#[]⟩),
 (142,⟨.type "function",none,.func (kF (D2 3 10) "__eq__" "Multiset.__eq__" 3 [] (.none) (.none) (.none) (.str "matchpy.utils" 194) none (.ref 141) (.none) 0),#[]⟩),
 (149,⟨.type "function",none,.func (kF (D2 3 11) "__ne__" "Multiset.__ne__" 3 [] (.none) (.none) (.none) (.str "matchpy.utils" 194) none (.ref 148) (.none) 0),#[]⟩),
 (154,⟨.type "function",none,.func (kF (D2 3 12) "__le__" "Multiset.__le__" 3 [] (.none) (.none) (.none) (.str "matchpy.utils" 194) none (.ref 153) (.none) 0),#[]⟩),
 (161,⟨.type "function",none,.func (kF (D2 3 13) "__add__" "Multiset.__add__" 3 [] (.none) (.none) (.none) (.str "matchpy.utils" 194) none (.ref 160) (.none) 0),#[]⟩),
 (168,⟨.type "function",none,.func (kF (D2 3 14) "__sub__" "Multiset.__sub__" 3 [] (.none) (.none) (.none) (.str "matchpy.utils" 194) none (.ref 167) (.none) 0),#[]⟩),
 (175,⟨.type "function",none,.func (kF (D2 3 15) "__mul__" "Multiset.__mul__" 3 [] (.none) (.none) (.none) (.str "matchpy.utils" 194) none (.ref 174) (.none) 0),#[]⟩),
 (177,⟨.type "dict",none,.dict #[kE P "__module__" 260 (.str "matchpy.utils" 194),kE P "__firstlineno__" 264 (.int 23 263),kE P "__init__" 270 (.ref 78),kE P "__getitem__" 279 (.ref 85),kE P "__setitem__" 285 (.ref 90),kE P "__contains__" 293 (.ref 97),kE P "__len__" 302 (.ref 104),kE P "__iter__" 311 (.ref 111),kE P "items" 317 (.ref 116),kE P "distinct_elements" 324 (.ref 123),kE P "copy" 331 (.ref 130),kE P "add" 339 (.ref 137),kE P "__eq__" 345 (.ref 142),kE P "__ne__" 353 (.ref 149),kE P "__le__" 359 (.ref 154),kE P "__add__" 369 (.ref 161),kE P "__sub__" 379 (.ref 168),kE P "__mul__" 389 (.ref 175),kE P "__static_attributes__" 391 (.ref 176),kE P "__dict__" 393 (.ref 179),kE P "__weakref__" 395 (.ref 180),kE P "__doc__" 396 (.none),kE P "__hash__" 397 (.none)] 5,#[]⟩),
 (178,⟨.type "type",none,.cls { name := "Multiset",bases:=[.type "object"],mro:=[.ref 178,.type "object"],ns:=177,qualname := "Multiset",hasDict:=true,slotNames:=[],subclasses:=[],abstract:=false,collection:=none,hasDel:=false },#[none,none,(some (.str "Multiset" 253)),(some (.str "Multiset" 261)),(some (.builtin "object.__new__")),(some (.bool true))]⟩),
 (188,⟨.type "code",none,.fields #[.str "_gcd" 400,.str "_gcd" 401,.str "/claim/cut.py" 402,.int 106 0,.int 2 0,.int 0 0,.int 0 0,.int 3 0,.ref 183,.bool true,.int 181 0,.ref 184,.none,.ref 185,.ref 186,.ref 187,.int 405 0,.int 106 0,.str "/claim/cut.py" 406],#[]⟩),
 (189,⟨.type "function",none,.func (kF (D 4) "_gcd" "_gcd" 3 [] (.none) (.none) (.none) (.str "matchpy.utils" 194) none (.ref 188) (.none) 0),#[]⟩),
 (190,⟨.type "tuple",none,.seq #[.type "tuple"] 0,#[]⟩),
 (192,⟨.type "dict",none,.dict #[kE P "__module__" 415 (.str "matchpy.utils" 194),kE P "__qualname__" 417 (.str "VariableWithCount" 416),kE P "__firstlineno__" 419 (.int 111 418),kE P "__doc__" 421 (.str "VariableWithCount(name, count, minimum, default)" 420),kE P "__slots__" 423 (.ref 198),kE P "_fields" 428 (.ref 199),kE P "_field_defaults" 429 (.ref 200),kE P "__new__" 441 (.ref 207),kE P "_make" 463 (.ref 216),kE P "_replace" 474 (.ref 225),kE P "__replace__" 475 (.ref 225),kE P "__repr__" 483 (.ref 232),kE P "_asdict" 490 (.ref 239),kE P "__getnewargs__" 498 (.ref 246),kE P "__match_args__" 503 (.ref 247),kE P "name" 513 (.ref 249),kE P "count" 523 (.ref 252),kE P "minimum" 533 (.ref 255),kE P "default" 543 (.ref 258),kE P "__static_attributes__" 544 (.ref 260),kE P "__classcell__" 545 (.ref 193)] 21,#[]⟩),
 (193,⟨.type "cell",none,.cell (some (.ref 263)),#[]⟩),
 (200,⟨.type "dict",none,.dict #[] 0,#[]⟩),
 (206,⟨.type "code",none,.fields #[.str "__new__" 430,.str "VariableWithCount.__new__" 431,.str "/claim/cut.py" 432,.int 117 0,.int 5 0,.int 0 0,.int 0 0,.int 3 0,.ref 201,.bool true,.int 181 0,.ref 202,.none,.ref 203,.ref 204,.ref 205,.int 438 0,.int 117 0,.str "/claim/cut.py" 439],#[]⟩),
 (207,⟨.type "function",none,.func (kF (D2 5 4) "__new__" "VariableWithCount.__new__" 3 [] (.none) (.none) (agQ (D2 5 4) 440) (.str "matchpy.utils" 194) none (.ref 206) (.none) 0),#[]⟩),
 (214,⟨.type "function",none,.func (kF (D2 5 5) "_make" "VariableWithCount._make" 3 [] (.none) (.none) (agQ (D2 5 5) 450) (.str "matchpy.utils" 194) (some 217) (.ref 213) (.none) 0),#[]⟩),
 (215,⟨.type "dict",none,.dict #[kE P "__module__" 452 (.str "matchpy.utils" 194),kE P "__name__" 455 (.str "_make" 454),kE P "__qualname__" 458 (.str "VariableWithCount._make" 457),kE P "__doc__" 460 (.str "Make a new VariableWithCount object from a sequence or iterable" 450),kE P "__annotations__" 462 (.ref 217)] 5,#[]⟩),
 (216,⟨.type "classmethod",(some 215),.fields #[.ref 214,.bool false],#[]⟩),
 (217,⟨.type "dict",none,.dict #[] 0,#[]⟩),
 (225,⟨.type "function",none,.func (kF (D2 5 6) "_replace" "VariableWithCount._replace" 3 [("__class__",193)] (.none) (.none) (.str "Return a new VariableWithCount object replacing specified fields with new values" 473) (.str "matchpy.utils" 194) none (.ref 224) (.ref 218) 0),#[]⟩),
 (232,⟨.type "function",none,.func (kF (D2 5 8) "__repr__" "VariableWithCount.__repr__" 3 [] (.none) (.none) (agQ (D2 5 8) 482) (.str "matchpy.utils" 194) none (.ref 231) (.none) 0),#[]⟩),
 (239,⟨.type "function",none,.func (kF (D2 5 9) "_asdict" "VariableWithCount._asdict" 3 [] (.none) (.none) (.none) (.str "matchpy.utils" 194) none (.ref 238) (.none) 0),#[]⟩),
 (246,⟨.type "function",none,.func (kF (D2 5 10) "__getnewargs__" "VariableWithCount.__getnewargs__" 3 [] (.none) (.none) (agQ (D2 5 10) 497) (.str "matchpy.utils" 194) none (.ref 245) (.none) 0),#[]⟩),
 (248,⟨.type "dict",none,.dict #[kE P "index" 510 (.int 0 504),kE P "__doc__" 512 (.str "Alias for field number 0" 505)] 2,#[]⟩),
 (249,⟨.ref 60,(some 248),.plain,#[]⟩),
 (251,⟨.type "dict",none,.dict #[kE P "index" 520 (.int 1 514),kE P "__doc__" 522 (.str "Alias for field number 1" 515)] 2,#[]⟩),
 (252,⟨.ref 60,(some 251),.plain,#[]⟩),
 (254,⟨.type "dict",none,.dict #[kE P "index" 530 (.int 2 524),kE P "__doc__" 532 (.str "Alias for field number 2" 525)] 2,#[]⟩),
 (255,⟨.ref 60,(some 254),.plain,#[]⟩),
 (257,⟨.type "dict",none,.dict #[kE P "index" 540 (.int 3 534),kE P "__doc__" 542 (.str "Alias for field number 3" 535)] 2,#[]⟩),
 (258,⟨.ref 60,(some 257),.plain,#[]⟩),
 (261,⟨.type "list",none,.seq #[] 0,#[]⟩),
 (262,⟨.type "dict",none,.dict #[kE P "__module__" 415 (.str "matchpy.utils" 194),kE P "__firstlineno__" 419 (.int 111 418),kE P "__doc__" 421 (.str "VariableWithCount(name, count, minimum, default)" 420),kE P "__slots__" 423 (.ref 198),kE P "_fields" 428 (.ref 199),kE P "_field_defaults" 429 (.ref 200),kE P "__new__" 441 (.ref 264),kE P "_make" 463 (.ref 216),kE P "_replace" 474 (.ref 225),kE P "__replace__" 475 (.ref 225),kE P "__repr__" 483 (.ref 232),kE P "_asdict" 490 (.ref 239),kE P "__getnewargs__" 498 (.ref 246),kE P "__match_args__" 503 (.ref 247),kE P "name" 513 (.ref 249),kE P "count" 523 (.ref 252),kE P "minimum" 533 (.ref 255),kE P "default" 543 (.ref 258),kE P "__static_attributes__" 544 (.ref 260)] 2,#[]⟩),
 (263,⟨.type "type",none,.cls { name := "VariableWithCount",bases:=[.type "tuple"],mro:=[.ref 263,.type "tuple",.type "object"],ns:=262,qualname := "VariableWithCount",hasDict:=false,slotNames:=[],subclasses:=[],abstract:=false,collection:=none,hasDel:=false },#[(some (.ref 190)),none,(some (.str "VariableWithCount" 408)),(some (.str "VariableWithCount" 416)),(some (.none)),(some (.bool false))]⟩),
 (264,⟨.type "staticmethod",none,.fields #[.ref 207],#[]⟩),
 (270,⟨.type "code",none,.fields #[.str "_make_variable_generator_factory" 549,.str "_make_variable_generator_factory" 550,.str "/claim/cut.py" 551,.int 155 0,.int 3 0,.int 0 0,.int 0 0,.int 3 0,.ref 267,.bool true,.int 181 0,.ref 268,.none,.none,.none,.ref 269,.int 552 0,.int 155 0,.str "/claim/cut.py" 553],#[]⟩),
 (271,⟨.type "function",none,.func (kF (D 6) "_make_variable_generator_factory" "_make_variable_generator_factory" 3 [] (.none) (.none) (.none) (.str "matchpy.utils" 194) none (.ref 270) (.none) 0),#[]⟩),
 (277,⟨.type "code",none,.fields #[.str "_commutative_single_variable_partiton_iter" 555,.str "_commutative_single_variable_partiton_iter" 556,.str "/claim/cut.py" 557,.int 166 0,.int 2 0,.int 0 0,.int 0 0,.int 35 0,.ref 272,.bool true,.int 181 0,.ref 273,.none,.ref 274,.ref 275,.ref 276,.int 567 0,.int 166 0,.str "/claim/cut.py" 568],#[]⟩),
 (278,⟨.type "function",none,.func (kF (D 7) "_commutative_single_variable_partiton_iter" "_commutative_single_variable_partiton_iter" 3 [] (.none) (.none) (.none) (.str "matchpy.utils" 194) none (.ref 277) (.none) 0),#[]⟩),
 (284,⟨.type "code",none,.fields #[.str "commutative_sequence_variable_partition_iter" 570,.str "commutative_sequence_variable_partition_iter" 571,.str "/claim/cut.py" 572,.int 182 0,.int 2 0,.int 0 0,.int 0 0,.int 35 0,.ref 279,.bool true,.int 181 0,.ref 280,.none,.ref 281,.ref 282,.ref 283,.int 582 0,.int 182 0,.str "/claim/cut.py" 583],#[]⟩),
 (285,⟨.type "function",none,.func (kF (D 8) "commutative_sequence_variable_partition_iter" "commutative_sequence_variable_partition_iter" 3 [] (.none) (.none) (agQ (D 8) 584) (.str "matchpy.utils" 194) none (.ref 284) (.none) 0),#[]⟩),
 (291,⟨.type "code",none,.fields #[.str "extended_euclid" 586,.str "extended_euclid" 587,.str "/claim/cut.py" 588,.int 239 0,.int 2 0,.int 0 0,.int 0 0,.int 3 0,.ref 286,.bool true,.int 181 0,.ref 287,.none,.ref 288,.ref 289,.ref 290,.int 596 0,.int 239 0,.str "/claim/cut.py" 597],#[]⟩),
 (292,⟨.type "function",none,.func (kF (D 9) "extended_euclid" "extended_euclid" 3 [] (.none) (.none) (agQ (D 9) 598) (.str "matchpy.utils" 194) none (.ref 291) (.none) 0),#[]⟩),
 (298,⟨.type "code",none,.fields #[.str "base_solution_linear" 600,.str "base_solution_linear" 601,.str "/claim/cut.py" 602,.int 279 0,.int 3 0,.int 0 0,.int 0 0,.int 35 0,.ref 293,.bool true,.int 181 0,.ref 294,.none,.ref 295,.ref 296,.ref 297,.int 611 0,.int 279 0,.str "/claim/cut.py" 612],#[]⟩),
 (299,⟨.type "function",none,.func (kF (D 10) "base_solution_linear" "base_solution_linear" 3 [] (.none) (.none) (agQ (D 10) 613) (.str "matchpy.utils" 194) none (.ref 298) (.none) 0),#[]⟩),
 (303,⟨.type "code",none,.fields #[.str "solve_linear_diop" 615,.str "solve_linear_diop" 616,.str "/claim/cut.py" 617,.int 335 0,.int 1 0,.int 0 0,.int 0 0,.int 39 0,.ref 300,.bool true,.int 181 0,.ref 301,.none,.none,.none,.ref 302,.int 618 0,.int 335 0,.str "/claim/cut.py" 619],#[]⟩),
 (304,⟨.type "function",none,.func (kF (D 11) "solve_linear_diop" "solve_linear_diop" 3 [] (.none) (.none) (agQ (D 11) 620) (.str "matchpy.utils" 194) none (.ref 303) (.none) 0),#[]⟩),
 (310,⟨.type "code",none,.fields #[.str "generator_chain" 622,.str "generator_chain" 623,.str "/claim/cut.py" 624,.int 374 0,.int 1 0,.int 0 0,.int 0 0,.int 39 0,.ref 305,.bool true,.int 181 0,.ref 306,.none,.ref 307,.ref 308,.ref 309,.int 628 0,.int 374 0,.str "/claim/cut.py" 629],#[]⟩),
 (311,⟨.type "function",none,.func (kF (D 12) "generator_chain" "generator_chain" 3 [] (.none) (.none) (agQ (D 12) 630) (.str "matchpy.utils" 194) none (.ref 310) (.none) 0),#[]⟩),
 (317,⟨.type "code",none,.fields #[.str "_law_ways" 634,.str "_law_ways" 635,.str "/claim/cut.py" 636,.int 415 0,.int 2 0,.int 0 0,.int 0 0,.int 3 0,.ref 312,.bool true,.int 181 0,.ref 313,.none,.ref 314,.ref 315,.ref 316,.int 642 0,.int 415 0,.str "/claim/cut.py" 643],#[]⟩),
 (318,⟨.type "function",none,.func (kF (D 14) "_law_ways" "_law_ways" 3 [] (.none) (.none) (.none) (.str "law_jf0029_01" 632) none (.ref 317) (.none) 0),#[]⟩),
 (322,⟨.type "code",none,.fields #[.str "_law_rows" 645,.str "_law_rows" 646,.str "/claim/cut.py" 647,.int 423 0,.int 2 0,.int 0 0,.int 0 0,.int 3 0,.ref 319,.bool true,.int 181 0,.ref 320,.none,.none,.none,.ref 321,.int 648 0,.int 423 0,.str "/claim/cut.py" 649],#[]⟩),
 (323,⟨.type "function",none,.func (kF (D 15) "_law_rows" "_law_rows" 3 [] (.none) (.none) (.none) (.str "law_jf0029_01" 632) none (.ref 322) (.none) 0),#[]⟩),
 (327,⟨.type "code",none,.fields #[.str "_law_due" 651,.str "_law_due" 652,.str "/claim/cut.py" 653,.int 432 0,.int 2 0,.int 0 0,.int 0 0,.int 3 0,.ref 324,.bool true,.int 181 0,.ref 325,.none,.none,.none,.ref 326,.int 654 0,.int 432 0,.str "/claim/cut.py" 655],#[]⟩),
 (328,⟨.type "function",none,.func (kF (D 16) "_law_due" "_law_due" 3 [] (.none) (.none) (.none) (.str "law_jf0029_01" 632) none (.ref 327) (.none) 0),#[]⟩),
 (332,⟨.type "code",none,.fields #[.str "law" 657,.str "law" 658,.str "/claim/cut.py" 659,.int 450 0,.int 1 0,.int 0 0,.int 0 0,.int 3 0,.ref 329,.bool true,.int 181 0,.ref 330,.none,.none,.none,.ref 331,.int 660 0,.int 450 0,.str "/claim/cut.py" 661],#[]⟩),
 (333,⟨.type "function",none,.func (kF (D 17) "law" "law" 3 [] (.none) (.none) (.none) (.str "law_jf0029_01" 632) none (.ref 332) (.none) 0),#[]⟩)
]
noncomputable def acv:List Nat:=[3,21,24,35,36,42,43,50,57,59,60,67,72,73,77,78,84,85,89,90,97,103,104,111,115,116,123,130,137,142,149,154,161,168,175,177,178,188,189,190,192,193,200,206,207,214,215,216,217,225,232,239,246,248,249,251,252,254,255,257,258,261,262,263,264,270,271,277,278,284,285,291,292,298,299,303,304,310,311,317,318,322,323,327,328,332,333]
section head
noncomputable def adT (tb:String→Option Builtin) (p:Program) (w:World) (n0':Nat) (ann:Option Value):Nat→SharedT→Thread→Option SharedT
 | 0,_,_=>none
 | n+1,s,t=>match through t with
  | true=>some s
  | false=>match stepOk n0' ann t with
   | false=>none
   | true=>match stepT (denote tb) p w s t with
    | some (s',t')=>adT tb p w n0' ann n s' t'
    | none=>none
theorem aeR {tb:String→Option Builtin}{p:Program}{w:World}{n0':Nat}{ann:Option Value}:∀ {n:Nat}{s s':SharedT}{t:Thread},
  adT tb p w n0' ann n s t=some s'→topRun tb p w n0' ann n s.abs t=some s'.abs
 | 0,_,_,_,h=>by cases h
 | n+1,s,s',t,h=>by
  unfold adT at h
  unfold topRun
  cases ht:through t with
  | true=>rw[ht] at h; cases h; rfl
  | false=>
   rw[ht] at h
   cases hk:stepOk n0' ann t with
   | false=>rw[hk] at h; cases h
   | true=>
    rw[hk] at h
    cases hs:stepT (denote tb) p w s t with
    | none=>rw[hs] at h; cases h
    | some x=>
     obtain⟨s₂,t₂⟩:=x
     rw[hs] at h
     rw[stepT_spec hs]
     exact aeR h
noncomputable def af2 (p:Program) (w:World) (n0':Nat) (ann:Option Value):Nat→SharedT→Thread→Option SharedT
 | 0,_,_=>none
 | n+1,s,t=>match through t with
  | true=>some s
  | false=>match PySem.W.Fast.tw6613529449190102663 n0' ann t with
   | false=>none
   | true=>match PySem.W.Fast.tw10156331382660048174 (PySem.W.Fast.tw11892475500146522536 PySem.W.Fast.tw14364793385576792824) p w s t with
    | some (s',t')=>af2 p w n0' ann n s' t'
    | none=>none
theorem aeO (p:Program) (w:World) (n0':Nat) (ann:Option Value):∀ (n:Nat) (s:SharedT) (t:Thread),af2 p w n0' ann n s t=adT treeTable p w n0' ann n s t
 | 0,_,_=>rfl
 | n+1,s,t=>by
  unfold af2 adT
  rw[← PySem.W.Fast.te6613529449190102663,← PySem.W.Fast.te10156331382660048174,← PySem.W.Fast.te11892475500146522536,← PySem.W.Fast.te14364793385576792824]
  simp only[aeO p w n0' ann n]
noncomputable def bt (P:Params):BT:=((((((((((BT.nil.ins 0 (boot_o_0 P)).ins 1 (boot_o_1 P)).ins 2 (boot_o_2 P)).ins 3 (boot_o_3 P)).ins 4 (boot_o_4 P)).ins 5 (boot_o_5 P)).ins 6 (boot_o_6 P)).ins 7 (boot_o_7 P)).ins 8 (boot_o_8 P)).ins 9 (boot_o_9 P)).ins 10 (boot_o_10 P)
theorem ap6 (P:Params):absHeap (bt P) 11 {}=boot_heap P:=by kernel_rfl
noncomputable def q:Program:=view pw [17]
noncomputable def adl:List Str:=["_wall", "_tuplegetter", "Multiset", "_gcd", "VariableWithCount", "_make_variable_generator_factory", "_commutative_single_variable_partiton_iter", "commutative_sequence_variable_partition_iter", "extended_euclid", "base_solution_linear", "solve_linear_diop", "generator_chain", "_law_ways", "_law_rows", "_law_due"]
noncomputable def obs (w:World) (s:Shared):=
 ((staticsOk (importedModules pw.main.body) (boot_heap w.params) s.heap&&namesBound pw s.heap&&gensDone s&&laidKept (boot_heap w.params) s.heap),
  PySem.W.Fast.tw4187177175401517315 q adl (importedModules pw.main.body) (fun J=>true) true s,acv.map s.heap.get?,(s.heap.get? 268,s.heap.get? 280,s.heap.isNs cStatics,s.heap.nsMap cStatics "thirdparty.any"),s.heap.objs.size,s.toks)
theorem aoV (w:World) (os:OsState):(af2 pw w 11 (some (.ref 6)) 2800 ⟨bt w.params,11,{},Array.mk [],boot_drawn,boot_toks,os⟩ (topStub pw)).map (fun s=>obs w s.abs) =
  some (true,openGood q adl,(K w.params).map (fun p=>some p.2),(some { cls:=.none,data:=.fields #[] },some { cls:=.none,data:=.fields #[] },true,none),334,663):=by kernel_rfl
end head
set_option backward.match.sparseCases true
set_option backward.match.sparseCases false
structure Res where
 fp:Addr→Prop
 gp:Nat→Prop
 P:Shared→Prop
 live:∀ s,P s→(∀ a,fp a→(s.heap.get? a).isSome=true)∧(∀ g,gp g→g<s.gens.size)
 loc:∀ s s',P s→(∀ a o,fp a→s.heap.get? a=some o→s'.heap.get? a=some o)→(∀ g,gp g→s'.gens[g]? = s.gens[g]?)→s'.os=s.os→P s'
noncomputable def ahV (R R':Res):Prop:=(∀ a,R.fp a→¬ R'.fp a)∧(∀ g,R.gp g→¬ R'.gp g)
theorem ahV.symm {R R':Res}(h:ahV R R'):ahV R' R:=⟨fun a x y=>h.1 a y x,fun g x y=>h.2 g y x⟩
noncomputable def aaf (s:Shared):List Res→Prop
 | []=>True
 | R::L=>R.P s∧(∀ R'∈L,ahV R R')∧aaf s L
noncomputable def aqW (s:Shared) (L:List Res):Prop:=∀ g x,s.gens[g]? = some x→(∀ R∈L,¬ R.gp g)→x.bare=true
noncomputable def aa0 (s:Shared) (L:List Res):Prop:=aqW s L∧aaf s L
structure alU (fp:Addr→Prop) (gp:Nat→Prop) (s s':Shared):Prop where
 heap:∀ a o,¬ fp a→s.heap.get? a=some o→s'.heap.get? a=some o
 gens:∀ g,g<s.gens.size→¬ gp g→s'.gens[g]? = s.gens[g]?
 os:s'.os=s.os
noncomputable abbrev aaD:Nat→Prop:=fun J=>False
structure Chg (R R':Res) (s s':Shared):Prop where
 kept:alU R.fp R.gp s s'
 new:∀ g x,s'.gens[g]? = some x→(s.gens.size≤g∨R.gp g)→¬ R'.gp g→x.bare=true
 p:R'.P s'
 fp:∀ a,R'.fp a→R.fp a∨s.heap.get? a=none
 gp:∀ g,R'.gp g→R.gp g∨s.gens.size≤g
noncomputable def emp:Res where
 fp:=aaD
 gp:=aaD
 P:=fun J=>True
 live:=fun J J=>⟨fun J z=>z.elim,fun J z=>z.elim⟩
 loc:=fun J J J J J J=>trivial
noncomputable abbrev acZ (s s':Shared):Prop:=Chg emp emp s s'
noncomputable abbrev acr (R:Res) (s s':Shared):Prop:=Chg emp R s s'
theorem aaf.loc {s s':Shared}:∀ {L:List Res},aaf s L→(∀ R∈L,∀ a o,R.fp a→s.heap.get? a=some o→s'.heap.get? a=some o)→(∀ R∈L,∀ g,R.gp g→s'.gens[g]? = s.gens[g]?)→s'.os=s.os→aaf s' L:=by
 intro xX
 induction xX with
 | nil=>exact @fun J J J J=>trivial
 | cons R lX ih=>exact @fun ⟨hp,ha,hl⟩ h1 h2 h3=>⟨R.loc s s' hp (h1 R (.head _)) (h2 R (.head _)) h3,ha,ih hl (fun R' m=>h1 R' (.tail _ m)) (fun R' m=>h2 R' (.tail _ m)) h3⟩
theorem aaf.live {s:Shared}:∀ {L:List Res},aaf s L→∀ R∈L,(∀ a,R.fp a→(s.heap.get? a).isSome=true)∧(∀ g,R.gp g→g<s.gens.size)
 | R::_,⟨hp,_,_⟩,_,.head _=>R.live s hp
 | _::_,⟨_,_,hl⟩,R',.tail _ m=>hl.live R' m
theorem aa0.upd {s s':Shared}{R R':Res}{L:List Res}(H:aa0 s (R::L)) (k:Chg R R' s s'):aa0 s' (R'::L):=by
 obtain⟨hb,hR,ha,hL⟩:=H
 refine⟨fun g x e hno=>?_,k.p,fun R₂ m=>⟨fun a x y=>?_,fun g x y=>?_⟩,hL.loc (fun R₂ m a o x e=>k.kept.heap a o (fun z=>(ha R₂ m).1 a z x) e) (fun R₂ m g x=>k.kept.gens g ((hL.live R₂ m).2 g x) fun z=>(ha R₂ m).2 g z x) k.kept.os⟩
 ·by_cases hc:s.gens.size≤g∨R.gp g
  ·exact k.new g x e hc (hno R' (.head _))
  ·have h1:g<s.gens.size:=Nat.lt_of_not_le fun z=>hc (.inl z)
   have h2:¬ R.gp g:=fun z=>hc (.inr z)
   rw[k.kept.gens g h1 h2] at e
   refine hb g x e fun R₂ m=>?_
   rcases List.mem_cons.mp m with rfl | m
   ·exact h2
   ·exact hno R₂ (.tail _ m)
 ·rcases k.fp a x with z | z
  ·exact (ha R₂ m).1 a z y
  ·have:=(hL.live R₂ m).1 a y
   rw[z] at this; cases this
 ·rcases k.gp g x with z | z
  ·exact (ha R₂ m).2 g z y
  ·exact absurd ((hL.live R₂ m).2 g y) (Nat.not_lt.mpr z)
theorem aa0.emp {s:Shared}{L:List Res}:aa0 s L↔aa0 s (emp::L):=
 ⟨fun H=>⟨fun g x e hno=>H.1 g x e fun R m=>hno R (.tail _ m),trivial,fun J J=>⟨fun J z=>z.elim,fun J z=>z.elim⟩,H.2⟩,
  fun H=>⟨fun g x e hno=>H.1 g x e fun R m=>by
   rcases List.mem_cons.mp m with rfl | m
   ·exact fun z=>z.elim
   ·exact hno R m,H.2.2.2⟩⟩
theorem aa0.keep {s s':Shared}{L:List Res}(H:aa0 s L) (k:acZ s s'):aa0 s' L:=aa0.emp.mpr ((aa0.emp.mp H).upd k)
theorem aa0.add {s s':Shared}{R':Res}{L:List Res}(H:aa0 s L) (k:acr R' s s'):aa0 s' (R'::L):=(aa0.emp.mp H).upd k
theorem aaf.append {s:Shared}:∀ {L M:List Res},aaf s (L++M)↔aaf s L∧aaf s M∧∀ R∈L,∀ R'∈M,ahV R R':=by
 intro xX
 induction xX with
 | nil=>exact @fun M=>⟨fun h=>⟨trivial,h,fun J m=>(nomatch m)⟩,fun h=>h.2.1⟩
 | cons R L ih=>
  refine @fun M=>?_
  constructor
  ·rintro ⟨hp,ha,hl⟩
   obtain⟨h1,h2,h3⟩:=ih.mp hl
   exact⟨⟨hp,fun R' m=>ha R' (List.mem_append_left _ m),h1⟩,h2,fun R₁ m1' R₂ m2'=>by
    rcases List.mem_cons.mp m1' with rfl | m1'
    ·exact ha R₂ (List.mem_append_right _ m2')
    ·exact h3 R₁ m1' R₂ m2'⟩
  ·rintro ⟨⟨hp,ha,hl⟩,h2,h3⟩
   exact⟨hp,fun R' m=>by
    rcases List.mem_append.mp m with m | m
    ·exact ha R' m
    ·exact h3 R (.head _) R' m,ih.mpr ⟨hl,h2,fun R₁ m1'=>h3 R₁ (.tail _ m1')⟩⟩
theorem aqW.perm {s:Shared}{L M:List Res}(h:aqW s L) (hp:∀ R,R∈L→R∈M):aqW s M:=fun g x e hno=>h g x e fun R m=>hno R (hp R m)
theorem aa0.front {s:Shared}{R:Res}{M:List Res}(L:List Res) (H:aa0 s (L++R::M)):aa0 s (R::(L++M)):=by
 obtain⟨h1,⟨hp,ha,hm⟩,h3⟩:=aaf.append.mp H.2
 exact⟨H.1.perm fun R' m=>by simp only[List.mem_append,List.mem_cons] at m ⊢; rcases m with m | m | m<;>simp[m],hp,fun R' m=>by
  rcases List.mem_append.mp m with m | m
  ·exact (h3 R' m R (.head _)).symm
  ·exact ha R' m,aaf.append.mpr ⟨h1,hm,fun R₁ m1' R₂ m2'=>h3 R₁ m1' R₂ (.tail _ m2')⟩⟩
theorem aa0.back {s:Shared}{R:Res}{M:List Res}(L:List Res) (H:aa0 s (R::(L++M))):aa0 s (L++R::M):=by
 obtain⟨hb,hp,ha,hl⟩:=H
 obtain⟨h1,h2,h3⟩:=aaf.append.mp hl
 exact⟨hb.perm fun R' m=>by simp only[List.mem_append,List.mem_cons] at m ⊢; rcases m with m | m | m<;>simp[m],aaf.append.mpr ⟨h1,⟨hp,fun R' m=>ha R' (List.mem_append_right _ m),h2⟩,fun R₁ m1' R₂ m2'=>by
  rcases List.mem_cons.mp m2' with rfl | m2'
  ·exact (ha R₁ (List.mem_append_left _ m1')).symm
  ·exact h3 R₁ m1' R₂ m2'⟩⟩
theorem aa0.drop {s:Shared}{R:Res}{M:List Res}(L:List Res) (H:aa0 s (L++R::M)) (hb:∀ g x,R.gp g→s.gens[g]? = some x→x.bare=true):aa0 s (L++M):=by
 obtain⟨h1,_,_,h3⟩:=H.front L
 refine⟨fun g x e hno=>?_,h3⟩
 by_cases hc:R.gp g
 ·exact hb g x hc e
 ·exact h1 g x e fun R' m=>by
   rcases List.mem_cons.mp m with rfl | m
   ·exact hc
   ·exact hno R' m
theorem aa0.updAt {s s':Shared}{R R':Res}{M:List Res}(L:List Res) (H:aa0 s (L++R::M)) (k:Chg R R' s s'):aa0 s' (L++R'::M):=((H.front L).upd k).back L
theorem aa0.at {s:Shared}{R:Res}{M:List Res}(L:List Res) (H:aa0 s (L++R::M)):R.P s:=(H.front L).2.1
theorem aa0.apart {s:Shared}{R R':Res}{M N:List Res}(L:List Res) (H:aa0 s (L++R::(M++R'::N))):ahV R R':=
 (H.front L).2.2.1 R' (List.mem_append_right _ (List.mem_append_right _ (.head _)))
theorem alU.refl {fp gp}(s:Shared):alU fp gp s s:=⟨fun J J J e=>e,fun J J J=>rfl,rfl⟩
theorem alU.any {fp gp}{s s':Shared}(k:alU aaD aaD s s'):alU fp gp s s':=⟨fun a o J e=>k.heap a o (fun z=>z) e,fun g h J=>k.gens g h fun z=>z,k.os⟩
theorem acZ.of {s s':Shared}(hk:∀ a o,s.heap.get? a=some o→s'.heap.get? a=some o) (hg:s'.gens=s.gens) (ho:s'.os=s.os):acZ s s':=
 ⟨⟨fun a o J e=>hk a o e,fun g J J=>by rw[hg],ho⟩,fun g x e hc J=>by
  rcases hc with hc | hc
  ·rw[hg] at e; have:=(Array.getElem?_eq_some_iff.mp e).1; lia
  ·exact hc.elim,trivial,fun J z=>z.elim,fun J z=>z.elim⟩
theorem acZ.refl (s:Shared):acZ s s:=.of (fun J J e=>e) rfl rfl
theorem acr.of {R:Res}{s s':Shared}(hk:∀ a o,s.heap.get? a=some o→s'.heap.get? a=some o) (hg:s'.gens=s.gens) (ho:s'.os=s.os) (hp:R.P s') (hf:∀ a,R.fp a→s.heap.get? a=none) (hgp:∀ g,¬ R.gp g):acr R s s':=
 ⟨(acZ.of hk hg ho).kept,fun g x e hc J=>(acZ.of hk hg ho).new g x e hc fun z=>z,hp,fun a x=>.inr (hf a x),fun g x=>(hgp g x).elim⟩
theorem Chg.of {R R':Res}{s s':Shared}(hk:∀ a o,¬ R.fp a→s.heap.get? a=some o→s'.heap.get? a=some o) (hg:s'.gens=s.gens) (ho:s'.os=s.os) (hp:R'.P s') (hf:∀ a,R'.fp a→R.fp a∨s.heap.get? a=none) (hgp:∀ g,¬ R.gp g) (hgp':∀ g,¬ R'.gp g):Chg R R' s s':=
 ⟨⟨hk,fun g J J=>by rw[hg],ho⟩,fun g x e hc J=>by
  rcases hc with hc | hc
  ·rw[hg] at e; have:=(Array.getElem?_eq_some_iff.mp e).1; lia
  ·exact (hgp g hc).elim,hp,hf,fun g x=>(hgp' g x).elim⟩
theorem aci {s:Shared} (o:Obj) (tk:Nat):acZ s { s with heap:=s.heap.push o,toks:=tk }:=.of (fun J J e=>Heap.get?_push_of_some _ e) rfl rfl
theorem aab {s:Shared} (tk:Nat):acZ s { s with toks:=tk }:=.of (fun J J e=>e) rfl rfl
theorem aaO {s:Shared} {h':Heap} (hk:∀ b o,s.heap.get? b=some o→h'.get? b=some o) (tk:Nat):acZ s { s with heap:=h',toks:=tk }:=.of hk rfl rfl
noncomputable def aae (L:List Res):Res where
 fp:=fun a=>∃ R∈L,R.fp a
 gp:=fun g=>∃ R∈L,R.gp g
 P:=fun s=>aaf s L
 live:=fun s h=>⟨fun a ⟨R,m,x⟩=>(h.live R m).1 a x,fun g ⟨R,m,x⟩=>(h.live R m).2 g x⟩
 loc:=fun s s' h k1 k2 k3=>h.loc (fun R m a o x e=>k1 a o ⟨R,m,x⟩ e) (fun R m g x=>k2 g ⟨R,m,x⟩) k3
theorem aa0.sep {s:Shared}{L M:List Res}:aa0 s (aae L::M)↔aa0 s (L++M):=by
 constructor
 ·rintro ⟨hb,hp,ha,hm⟩
  refine⟨fun g x e hno=>hb g x e fun R m=>?_,aaf.append.mpr ⟨hp,hm,fun R m R' m'=>⟨fun a x y=>(ha R' m').1 a ⟨R,m,x⟩ y,fun g x y=>(ha R' m').2 g ⟨R,m,x⟩ y⟩⟩⟩
  rcases List.mem_cons.mp m with rfl | m
  ·rintro ⟨R',m',x⟩; exact hno R' (List.mem_append_left _ m') x
  ·exact hno R (List.mem_append_right _ m)
 ·rintro ⟨hb,h⟩
  obtain⟨h1,h2,h3⟩:=aaf.append.mp h
  refine⟨fun g x e hno=>hb g x e fun R m z=>?_,h1,fun R' m'=>⟨fun a ⟨R,m,x⟩ y=>(h3 R m R' m').1 a x y,fun g ⟨R,m,x⟩ y=>(h3 R m R' m').2 g x y⟩,h2⟩
  rcases List.mem_append.mp m with m | m
  ·exact hno (aae L) (.head _) ⟨R,m,z⟩
  ·exact hno R (.tail _ m) z
noncomputable def aa1 (L:Addr) (m:Str→Option Value):Res where
 fp:=(· = L)
 gp:=aaD
 P:=fun s=>s.heap.Ns L m
 live:=fun s ⟨o,_,_,ho,_⟩=>⟨fun b e=>by subst e; rw[ho]; rfl,fun J z=>z.elim⟩
 loc:=fun s s' ⟨o,es,ep,ho,r⟩ h J J=>⟨o,es,ep,h L o rfl ho,r⟩
noncomputable def aa2 (a:Addr) (items:Array Value):Res where
 fp:=(· = a)
 gp:=aaD
 P:=fun s=>s.heap.PlainList a items
 live:=fun s ⟨n,ho⟩=>⟨fun b e=>by subst e; rw[ho]; rfl,fun J z=>z.elim⟩
 loc:=fun s s' ⟨n,ho⟩ h J J=>⟨n,h a _ rfl ho⟩
noncomputable def ac5 (a:Addr) (items:Array Value):Res where
 fp:=(· = a)
 gp:=aaD
 P:=fun s=>s.heap.IsTuple a items
 live:=fun s ⟨o,ho,_⟩=>⟨fun b e=>by subst e; rw[ho]; rfl,fun J z=>z.elim⟩
 loc:=fun s s' ⟨o,ho,r⟩ h J J=>⟨o,h a o rfl ho,r⟩
noncomputable def aal:List Str→List (Option Value)→Str→Option Value
 | n::ns,v::vs,x=>if x=n then v else aal ns vs x
 | _,_,_=>none
theorem af1:∀ {ns:List Str}{vs:List (Option Value)}{i:Nat}{x:Str}{v:Option Value},ns.Nodup→ns[i]? = some x→vs[i]? = some v→aal ns vs x=v
 | n::ns,w::vs,0,x,v,_,h1,h2=>by
  cases h1; cases h2
  simp[aal]
 | n::ns,w::vs,i+1,x,v,hn,h1,h2=>by
  have hx:x≠n:=by
   rintro rfl
   exact (List.nodup_cons.mp hn).1 (List.mem_of_getElem? (by simpa using h1))
  simp only[aal,if_neg hx]
  exact af1 (List.nodup_cons.mp hn).2 (by simpa using h1) (by simpa using h2)
 | [],_,_,_,_,_,h1,_=>by simp at h1
 | _::_,[],_,_,_,_,_,h2=>by simp at h2
theorem ahv:∀ {ns:List Str}{vs:List (Option Value)}{i:Nat}{x:Str}{v:Value},ns.Nodup→ns.length=vs.length→ns[i]? = some x→∀ y,(if y=x then some v else aal ns vs y)=aal ns (vs.set i (some v)) y
 | n::ns,w::vs,0,x,v,_,_,h1,y=>by
  cases h1
  simp only[List.set_cons_zero,aal]
  split<;>rfl
 | n::ns,w::vs,i+1,x,v,hn,hl,h1,y=>by
  have hx:x≠n:=by
   rintro rfl
   exact (List.nodup_cons.mp hn).1 (List.mem_of_getElem? (by simpa using h1))
  simp only[List.set_cons_succ,aal]
  have ih:=ahv (v:=v) (List.nodup_cons.mp hn).2 (by simpa using hl) (show ns[i]? = some x by simpa using h1) y
  by_cases h:y=n
  ·subst h
   rw[if_neg (Ne.symm hx),if_pos rfl,if_pos rfl]
  ·rw[if_neg h,if_neg h]; exact ih
 | [],_,_,_,_,_,_,h1,_=>by simp at h1
 | _::_,[],_,_,_,_,hl,_,_=>by simp at hl
theorem abh {h:Heap}{a:Addr}{m m':Str→Option Value}(x:h.Ns a m) (e:∀ y,m y=m' y):h.Ns a m':=let ⟨o,es,ep,a1,a2,a3,a4⟩:=x; ⟨o,es,ep,a1,a2,a3,fun y=>(a4 y).trans (e y)⟩
structure aa8 (env:Env) (ns gs:List Str):Prop where
 kind:env.scope.kind=.function
 nd:ns.Nodup
 loc:∀ (i:Nat) (x:Str),ns[i]? = some x→env.kindOf x=some .local
 glo:∀ (i:Nat) (x:Str),gs[i]? = some x→env.kindOf x=some .globalImplicit
 dbg:∀ (i:Nat) (x:Str),(ns++gs)[i]? = some x→(x==("__debug__" : Str))=false
 globals:env.globals=mainGlobals
 builtins:env.builtins=builtinsNs
section
variable {w:World}{A:Around}{E:Value→Shared→Prop}{s:Shared}{env:Env}{ns gs:List Str}{vs:List (Option Value)}{L:List Res}
theorem ldL (i:Nat) {x:Str}{pos:Pos}{v:Value}{Q:Value→Shared→Prop}(F:aa8 env ns gs) (H:aa0 s (aa1 env.locals (aal ns vs)::L)) (hv:vs[i]? = some (some v)) (h:Q v s) (hx:ns[i]? = some x:=by rfl) :
  wpAny (model pw w) A (eval (.Name x pos) env) Q E s:=
 wpAny_Name (wpAny_loadName_local F.kind (F.loc i x hx) H.2.1 (af1 F.nd hx hv) h) (F.dbg i x (by
  rw[List.getElem?_append_left (List.getElem?_eq_some_iff.mp hx).1]; exact hx))
theorem stL (i:Nat) {x:Str}{v:Value}{Q:Unit→Shared→Prop}(F:aa8 env ns gs) (H:aa0 s (aa1 env.locals (aal ns vs)::L)) (hl:ns.length=vs.length)
  (h:∀ s',aa0 s' (aa1 env.locals (aal ns (vs.set i (some v)))::L)→Q () s') (hx:ns[i]? = some x:=by rfl) :
  wpAny (model pw w) A (storeName env x v) Q E s:=
 wpAny_storeName_local (F.loc i x hx) H.2.1 (fun h' hn hs=>h _ (H.upd (R':=aa1 env.locals (aal ns (vs.set i (some v)))) (.of (fun b o hb e=>(hs.2 b hb).trans e) rfl rfl (abh hn (ahv F.nd hl hx)) (fun a e=>.inl e) (fun g z=>z) (fun g z=>z))))
  (by rw[F.kind]; rfl)
end
set_option backward.match.sparseCases true
set_option backward.match.sparseCases false
structure Bs (w:World) (h:Heap):Prop where
 k:∀ p∈K w.params,h.get? p.1=some p.2
 nolimit:h.NoLimit
 third:∃ mc,h.Ns cStatics mc∧mc "thirdparty.any" = none
 bmod:∃ o,h.get? 4=some o∧o.cls=.type "module" ∧ o.dict=some builtinsNs∧o.data=.plain
 blt:∃ mb,h.Ns builtinsNs mb∧∀ x:Str,x ≠ "__name__" → mb x=bootBuiltins x
theorem ag2 {h h':Heap}(x:h.NoLimit) (hk:∀ a o,a=2→h.get? a=some o→h'.get? a=some o):h'.NoLimit:=
 let ⟨mc,⟨o,es,ep,ho,r⟩,e⟩:=x; ⟨mc,⟨o,es,ep,hk _ _ rfl ho,r⟩,e⟩
theorem Bs.loc {w:World}{h h':Heap}(b:Bs w h) (hk:∀ a o,(a∈acv∨a=0∨a=2∨a=4)→h.get? a=some o→h'.get? a=some o) (hm:∀ p∈K w.params,p.1∈acv):Bs w h':=
 ⟨fun p hp=>hk _ _ (.inl (hm p hp)) (b.k p hp),ag2 b.nolimit fun a o e=>hk a o (.inr (.inr (.inl e))),
  (let ⟨mc,⟨o,es,ep,ho,r⟩,e⟩:=b.third; ⟨mc,⟨o,es,ep,hk _ _ (.inr (.inr (.inl rfl))) ho,r⟩,e⟩),
  (let ⟨o,ho,r⟩:=b.bmod; ⟨o,hk _ _ (.inr (.inr (.inr rfl))) ho,r⟩),
  let ⟨mb,⟨o,es,ep,ho,r⟩,e⟩:=b.blt; ⟨mb,⟨o,es,ep,hk _ _ (.inr (.inl rfl)) ho,r⟩,e⟩⟩
theorem adL (P:Params):(K P).map (·.1)=acv:=by kernel_rfl
theorem acK {P:Params}{p:Nat × Obj}(h:p∈K P):p.1∈acv:=by rw[← adL P]; exact List.mem_map_of_mem h
theorem Bs.keep {w:World}{s s':Shared}(b:Bs w s.heap) (k:acZ s s'):Bs w s'.heap:=b.loc (fun a o J e=>k.kept.heap a o (fun z=>z) e) fun J=>acK
noncomputable def af8 (P:Params):Obj:=((K P).getD 0 (0,default)).2
noncomputable def ahI (P:Params):Array DictEntry:=match (af8 P).data with | .dict es _=>es | _=>#[]
noncomputable def ar4 (P:Params):Nat:=match (af8 P).data with | .dict _ n=>n | _=>0
theorem mK {P:Params}(i:Nat) {p:Nat × Obj}(h:(K P)[i]? = some p):p∈K P:=List.mem_of_getElem? (i:=i) h
theorem ahr (P:Params):(3,af8 P)∈K P:=mK 0 (by kernel_rfl)
theorem afL (P:Params):(af8 P).data=.dict (ahI P) (ar4 P):=by kernel_rfl
noncomputable def at9:Value→Bool
 | .str _ _=>true
 | _=>false
theorem anS {v:Value}(h:at9 v=true):∃ n t,v=.str n t:=by cases v<;>first | exact⟨_,_,rfl⟩ | cases h
noncomputable def an6 (l:List DictEntry):Bool:=l.all fun e=>at9 e.key
theorem aie {l:List DictEntry}(h:an6 l=true) (e:DictEntry) (m:e∈l):∃ n t,e.key=.str n t:=anS (List.all_eq_true.mp h e m)
theorem ag9 (P:Params):StrKeys (ahI P):=fun e he=>aie (l:=(ahI P).toList) (by kernel_rfl) e (Array.mem_toList_iff.mpr he)
noncomputable def mgK (P:Params) (x:Str):Option Value:=nsFind (ahI P) x
theorem Bs.mg {w:World}{h:Heap}(b:Bs w h):h.Ns mainGlobals (mgK w.params):=⟨_,_,_,b.k _ (ahr _),afL _,ag9 _,fun J=>rfl⟩
noncomputable def gl:List (Str × Value):=[("Multiset",.ref 178),("_gcd",.ref 189),("VariableWithCount",.ref 263),("_make_variable_generator_factory",.ref 271),("_commutative_single_variable_partiton_iter",.ref 278),("commutative_sequence_variable_partition_iter",.ref 285),
 ("extended_euclid",.ref 292),("base_solution_linear",.ref 299),("solve_linear_diop",.ref 304),("generator_chain",.ref 311),("_law_ways",.ref 318),("_law_rows",.ref 323),("_law_due",.ref 328),("law",.ref 333)]
noncomputable def bl:List (Str × Value):=[("isinstance",.builtin "isinstance"),("dict",.type "dict"),("len",.builtin "len"),("abs",.builtin "abs"),("issubclass",.builtin "issubclass"),("type",.type "type"),("tuple",.type "tuple"),("list",.type "list"),("zip",.type "zip"),
 ("range",.type "range"),("sum",.builtin "sum"),("min",.builtin "min"),("sorted",.builtin "sorted"),("str",.type "str")]
theorem ape (P:Params):gl.map (fun p=>mgK P p.1)=gl.map (fun p=>some p.2):=by kernel_rfl
theorem anw (P:Params):bl.map (fun p=>mgK P p.1)=bl.map (fun J=>none):=by kernel_rfl
theorem asJ:bl.map (fun p=>bootBuiltins p.1)=bl.map (fun p=>some p.2):=by kernel_rfl
theorem aly:bl.all (fun p=>p.1 != ("__name__" : Str))=true:=by kernel_rfl
theorem agj {α β:Type}{f g:α→β}{l:List α}(h:l.map f=l.map g):∀ x∈l,f x=g x:=by
 induction l with
 | nil=>intro x m; cases m
 | cons a l ih=>
  simp only[List.map_cons,List.cons.injEq] at h
  intro x m
  rcases List.mem_cons.mp m with rfl | m
  ·exact h.1
  ·exact ih h.2 x m
section
variable {w:World}{A:Around}{E:Value→Shared→Prop}{s:Shared}{env:Env}{ns gs:List Str}{Q:Value→Shared→Prop}
theorem ldG (j i:Nat) {x:Str}{pos:Pos}{v:Value}(F:aa8 env ns gs) (b:Bs w s.heap) (h:Q v s) (hx:gs[j]? = some x:=by rfl) (hg:gl[i]? = some (x,v):=by rfl):wpAny (model pw w) A (eval (.Name x pos) env) Q E s:=by
 have hd:(x==("__debug__" : Str))=false:=F.dbg (ns.length+j) x (by rw[List.getElem?_append_right (Nat.le_add_right ..),Nat.add_sub_cancel_left]; exact hx)
 refine Name_function_global F.kind (F.glo j x hx) (loadGlobal_global (mg:=mgK w.params) (by rw[F.globals]; exact b.mg) ?_ h) hd
 exact agj (ape w.params) _ (List.mem_of_getElem? hg)
theorem ldB (j i:Nat) {x:Str}{pos:Pos}{v:Value}(F:aa8 env ns gs) (b:Bs w s.heap) (h:Q v s) (hx:gs[j]? = some x:=by rfl) (hg:bl[i]? = some (x,v):=by rfl):wpAny (model pw w) A (eval (.Name x pos) env) Q E s:=by
 have hd:(x==("__debug__" : Str))=false:=F.dbg (ns.length+j) x (by rw[List.getElem?_append_right (Nat.le_add_right ..),Nat.add_sub_cancel_left]; exact hx)
 obtain⟨mb,hb,hm⟩:=b.blt
 have m:=List.mem_of_getElem? hg
 have hn:x≠("__name__" : Str):=by
  have:=List.all_eq_true.mp aly _ m
  simpa using this
 exact Name_function_global F.kind (F.glo j x hx) (loadGlobal_builtin (mg:=mgK w.params) (by rw[F.globals]; exact b.mg) (agj (anw w.params) _ m) (by rw[F.builtins]; exact hb) ((hm x hn).trans (agj asJ _ m)) h) hd
end
structure aah (A:Around) (d u:Nat):Prop where
 handled:A.handled=none
 depth:A.depth+d≤900
 units:A.units+u≤9000
theorem aah.lt {A:Around}{d u:Nat}(r:aah A d u):A.depth<recursionLimit:=by have:=r.depth; unfold recursionLimit; lia
theorem aah.mono {A:Around}{d u d' u':Nat}(r:aah A d u) (h1:d'≤d) (h2:u'≤u):aah A d' u':=⟨r.handled,by have:=r.depth; lia,by have:=r.units; lia⟩
theorem aah.deeper {A:Around}{d u:Nat}(r:aah A (d+1) (u+3)) (env:Env):aah (A.deeper env) d u:=⟨r.handled,by simp only[depth_deeper]; have:=r.depth; exact q49 ‹_›,by simp only[units_deeper]; have:=r.units; lia⟩
theorem aah.in1 {A:Around}{d u:Nat}(r:aah A d (u+1)):aah A.in1 d u:=⟨r.handled,r.depth,by simp only[units_in1]; have:=r.units; exact q49 ‹_›⟩
noncomputable def alJ (fd:FuncData) (ns gs:List Str):Bool:=
 (fd.scope.kind==.function)&&!fd.scope.isCoroutine&&decide ns.Nodup&&ns.all (fun x=>fd.scope.names.lookup x==some .local)&&gs.all (fun x=>fd.scope.names.lookup x==some .globalImplicit) &&
 (ns++gs).all (fun x=>!(x==("__debug__" : Str)))&&fd.globals==mainGlobals&&fd.builtins==builtinsNs&&fd.scope.names.all (fun x=>x.2 != .cell)
structure atq (fd:FuncData) (ns gs:List Str):Prop where
 a:fd.scope.kind=.function
 b:fd.scope.isCoroutine=false
 c:ns.Nodup
 d:∀ x∈ns,fd.scope.names.lookup x=some .local
 e:∀ x∈gs,fd.scope.names.lookup x=some .globalImplicit
 f:∀ x∈ns++gs,(x==("__debug__" : Str))=false
 g:fd.globals=mainGlobals
 h:fd.builtins=builtinsNs
 i:∀ x∈fd.scope.names,(x.2 != .cell)=true
theorem anz {fd:FuncData}{ns gs:List Str}(h:alJ fd ns gs=true):atq fd ns gs:=by
 simp only[alJ,Bool.and_eq_true,decide_eq_true_eq,List.all_eq_true,beq_iff_eq,Bool.not_eq_true'] at h
 obtain⟨⟨⟨⟨⟨⟨⟨⟨h1,h2⟩,h3⟩,h4⟩,h5⟩,h6⟩,h7⟩,h8⟩,h9⟩:=h
 exact⟨h1,h2,h3,h4,h5,h6,h7,h8,h9⟩
structure Fn (fd:FuncData) (f:Addr) (ns gs:List Str):Prop where
 obj:∀ P,∃ o,(f,o)∈K P∧o.data=.func fd
 code:∀ P,∃ c o vs t,fd.code=.ref c∧(c,o)∈K P∧o.data=.fields vs∧vs[1]? = some (.str fd.qualname t)
 chk:alJ fd ns gs=true
theorem Fn.codeRec {fd:FuncData}{f:Addr}{ns gs:List Str}(X:Fn fd f ns gs) {w:World}{h:Heap}(b:Bs w h):h.CodeRec fd.code fd.qualname:=
 let ⟨c,o,vs,t,e,m,hd,hv⟩:=X.code w.params; ⟨c,o,vs,t,e,b.k _ m,hd,hv⟩
theorem Fn.env {fd:FuncData}{f:Addr}{ns gs:List Str}(X:Fn fd f ns gs) (L a:Addr):aa8 (callEnv fd L a) ns gs:=by
 have h:=X.chk
 obtain⟨h1,h2,h3,h4,h5,h6,h7,h8,h9⟩:=anz h
 exact⟨h1,h3,fun i x hx=>h4 x (List.mem_of_getElem? hx),fun i x hx=>h5 x (List.mem_of_getElem? hx),fun i x hx=>h6 x (List.mem_of_getElem? hx),h7,h8⟩
theorem aay:∀ (ps:List Str) (vals:List Value) (rest:List Str) (more:List (Option Value)) (y:Str),(ps++rest).Nodup→ps.length=vals.length→(∀ z∈more,z=none)→
  (ps.zip vals).reverse.lookup y=aal (ps++rest) (vals.map some++more) y
 | [],[],rest,more,y,_,_,hm=>by
  have:∀ (r:List Str) (m:List (Option Value)),(∀ z∈m,z=none)→aal r m y=none:=by
   intro r
   induction r with
   | nil=>intro m _; cases m<;>rfl
   | cons n r ih=>
    intro m hm
    cases m with
    | nil=>rfl
    | cons z m=>
     simp only[aal,hm z (.head _),ih m fun z q=>hm z (.tail _ q)]
     split<;>rfl
  simp[this rest more hm]
 | p::ps,v::vals,rest,more,y,hn,hl,hm=>by
  have ih:=aay ps vals rest more y (List.nodup_cons.mp hn).2 (by simpa using hl) hm
  simp only[List.zip_cons_cons,List.reverse_cons,List.lookup_append,List.cons_append,List.map_cons,aal,ih]
  by_cases h:y=p
  ·subst h
   have hnone:aal (ps++rest) (vals.map some++more) y=none:=by
    rw[← ih]
    have hp:y ∉ ps:=fun z=>(List.nodup_cons.mp hn).1 (List.mem_append_left _ z)
    cases hq:(ps.zip vals).reverse.lookup y with
    | none=>rfl
    | some u=>
     exfalso
     have:=List.lookup_eq_some_iff.mp hq
     obtain⟨l1,l2,e,_⟩:=this
     have:(y,u)∈ps.zip vals:=by
      have:(y,u)∈(ps.zip vals).reverse:=by rw[e]; simp
      simpa using this
     exact hp (List.of_mem_zip this).1
   simp[hnone]
  ·have:(y==p)=false:=by simpa using h
   simp[List.lookup,this,h]
 | [],_::_,_,_,_,_,hl,_=>by simp at hl
 | _::_,[],_,_,_,_,hl,_=>by simp at hl
noncomputable def aiv:Flow→Value
 | .ret v=>v
 | _=>.none
set_option backward.match.sparseCases true
noncomputable def kfp (a:Nat):Prop:=a∈acv∨a=0∨a=2∨a=4
structure akK (w:World) (fp:Addr→Prop) (gp:Nat→Prop) (s0 s:Shared):Prop where
 bs:Bs w s0.heap
 free:∀ a,fp a→¬ kfp a
 kept:alU fp gp s0 s
theorem Bs.live {w:World}{h:Heap}(b:Bs w h) {a:Nat}(x:kfp a):(h.get? a).isSome=true:=by
 rcases x with x | x | x | x
 ·rw[← adL w.params] at x
  obtain⟨p,hp,rfl⟩:=List.mem_map.mp x
  rw[b.k p hp]; rfl
 ·obtain⟨mb,⟨o,_,_,ho,_⟩,_⟩:=b.blt
  subst x
  exact Option.isSome_of_eq_some ho
 ·obtain⟨mc,⟨o,_,_,ho,_⟩,_⟩:=b.nolimit
  subst x
  exact Option.isSome_of_eq_some ho
 ·obtain⟨o,ho,_⟩:=b.bmod
  subst x
  exact Option.isSome_of_eq_some ho
noncomputable def aa5 (w:World) (fp:Addr→Prop) (gp:Nat→Prop) (s0:Shared):Res where
 fp:=fun a=>(s0.heap.get? a).isSome=true∧¬ fp a
 gp:=fun g=>g<s0.gens.size∧¬ gp g
 P:=akK w fp gp s0
 live:=fun s b=>⟨fun a ⟨x,y⟩=>by
  obtain⟨o,ho⟩:=Option.isSome_iff_exists.mp x
  rw[b.kept.heap a o y ho]; rfl,fun g ⟨hg,y⟩=>by
  have e:=b.kept.gens g hg y
  rw[Array.getElem?_eq_getElem hg] at e
  exact (Array.getElem?_eq_some_iff.mp e).1⟩
 loc:=fun s s' b k1 k2 k3=>⟨b.bs,b.free,⟨fun a o x e=>k1 a o ⟨by rw[e]; rfl,x⟩ (b.kept.heap a o x e),fun g hg x=>(k2 g ⟨hg,x⟩).trans (b.kept.gens g hg x),k3.trans b.kept.os⟩⟩
section
variable {w:World}{s s0:Shared}{fp:Addr→Prop}{gp:Nat→Prop}{R:Res}{L:List Res}
theorem akK.now (k:akK w fp gp s0 s):Bs w s.heap:=k.bs.loc (fun a o x e=>k.kept.heap a o (fun z=>k.free a z (by exact x)) e) fun J=>acK
theorem aa0.bs (H:aa0 s (R::aa5 w fp gp s0::L)):Bs w s.heap:=(H.at [_]).now
theorem aa0.bs0 (H:aa0 s (aa5 w fp gp s0::L)):Bs w s.heap:=(H.at []).now
theorem aa0.start (b:Bs w s.heap):aa0 s [aa5 w aaD aaD s]:=
 ⟨fun g x e hno=>by
  have hg:g<s.gens.size:=(Array.getElem?_eq_some_iff.mp e).1
  exact absurd ⟨hg,fun z=>z⟩ (hno _ (.head _)),⟨b,fun J z=>z.elim,alU.refl s⟩,(fun J m=>(nomatch m)),trivial⟩
theorem aa0.startR (b:Bs w s.heap) (hp:R.P s) (hf:∀ a,R.fp a→¬ kfp a):aa0 s [aa5 w R.fp R.gp s,R]:=
 ⟨fun g x e hno=>by
  have hg:g<s.gens.size:=(Array.getElem?_eq_some_iff.mp e).1
  exact absurd ⟨hg,fun z=>hno R (.tail _ (.head _)) z⟩ (hno _ (.head _)),⟨b,hf,alU.refl s⟩,(fun R' m=>by
  cases List.mem_singleton.mp m
  exact⟨fun a x y=>x.2 y,fun g x y=>x.2 y⟩),hp,(fun J m=>(nomatch m)),trivial⟩
theorem aed {h':Heap} (hk:Heap.ExtBut s.heap.objs.size s.heap h') (tk:Nat):acZ s { s with heap:=h',toks:=tk }:=
 aaO (fun b o e=>hk b o (Nat.ne_of_lt (Heap.lt_size e)) e) tk
theorem aa9 {h:Heap}:∀ a,a=h.objs.size→h.get? a=none:=fun a e=>by
 subst e
 cases hq:h.get? h.objs.size with
 | none=>rfl
 | some o=>exact absurd (Heap.lt_size hq) (Nat.lt_irrefl _)
theorem aa0.made {s':Shared}{R₁ R₂ R':Res}(H:aa0 s (R₁::R₂::L)) (m:acr R' s s'):aa0 s' (R₁::R₂::R'::L):=(H.add m).back [_,_]
noncomputable def abq:List Res→Prop
 | []=>True
 | R::L=>(∀ g,R.gp g→False)∧abq L
theorem abq.mem:∀ {L:List Res},abq L→∀ R∈L,∀ g,¬ R.gp g
 | _::_,h,_,.head _=>h.1
 | _::_,h,R,.tail _ m=>abq.mem h.2 R m
theorem aa0.out {R₁ R':Res}(H:aa0 s (R₁::aa5 w aaD aaD s0::R'::L)) (hn:abq (R₁::L):=by repeat (first | exact trivial | refine⟨fun J z=>z,?_⟩)):acr R' s0 s:=
 ⟨let k:=(H.at [_]).kept; ⟨fun a o J e=>k.heap a o (fun z=>z) e,fun g h J=>k.gens g h fun z=>z,k.os⟩,fun g x e hc hr=>H.1 g x e fun R m=>by
  rcases List.mem_cons.mp m with rfl | m
  ·exact hn.mem _ (.head _) g
  ·rcases List.mem_cons.mp m with rfl | m
   ·rintro ⟨z,_⟩
    rcases hc with hc | hc
    ·lia
    ·exact hc
   ·rcases List.mem_cons.mp m with rfl | m
    ·exact hr
    ·exact hn.mem _ (.tail _ m) g,H.at [_,_],fun a x=>.inr (by
  cases hq:s0.heap.get? a with
  | none=>rfl
  | some o=>exact absurd x ((H.apart (M:=[]) [_]).1 a ⟨by rw[hq]; rfl,fun z=>z⟩)),fun g x=>.inr (Nat.le_of_not_lt fun hg=>(H.apart (M:=[]) [_]).2 g ⟨hg,fun z=>z⟩ x)⟩
theorem aa0.done {R₁:Res}(H:aa0 s (R₁::aa5 w aaD aaD s0::L)) (hn:abq (R₁::L):=by repeat (first | exact trivial | refine⟨fun J z=>z,?_⟩)):acZ s0 s:=
 aa0.out (R':=Mine.emp) ((aa0.emp.mp H).back [R₁,aa5 w aaD aaD s0]) hn
theorem aa0.outR {R R₁ R':Res}(H:aa0 s (R₁::aa5 w R.fp R.gp s0::R'::L)) (hn:abq (R₁::L):=by repeat (first | exact trivial | refine⟨fun J z=>z,?_⟩)):Chg R R' s0 s:=
 ⟨(H.at [_]).kept,fun g x e hc hr=>H.1 g x e fun R₂ m=>by
  rcases List.mem_cons.mp m with rfl | m
  ·exact hn.mem _ (.head _) g
  ·rcases List.mem_cons.mp m with rfl | m
   ·rintro ⟨z,z'⟩
    rcases hc with hc | hc
    ·lia
    ·exact z' hc
   ·rcases List.mem_cons.mp m with rfl | m
    ·exact hr
    ·exact hn.mem _ (.tail _ m) g,H.at [_,_],fun a x=>by
  by_cases hx:R.fp a
  ·exact .inl hx
  ·refine .inr ?_
   cases hq:s0.heap.get? a with
   | none=>rfl
   | some o=>exact absurd x ((H.apart (M:=[]) [_]).1 a ⟨by rw[hq]; rfl,hx⟩),fun g x=>by
  by_cases hx:R.gp g
  ·exact .inl hx
  ·exact .inr (Nat.le_of_not_lt fun hg=>(H.apart (M:=[]) [_]).2 g ⟨hg,hx⟩ x)⟩
end
section
variable {w:World}{A:Around}{E:Value→Shared→Prop}{s:Shared}{env:Env}{L:List Res}{R R₂:Res}{ns gs:List Str}
theorem aa8.inter (F:aa8 env ns gs):interactive env=false:=by unfold interactive; rw[F.kind]; rfl
theorem atG {i k pos}{Q:Value→Shared→Prop}(H:aa0 s L) (h:∀ s' t,aa0 s' L→Q (.int i t) s'):wpAny (model pw w) A (eval (.Constant (.int i) k pos) env) Q E s:=
 wpAny_Constant_int (h _ _ (H.keep (aab _)))
theorem at6 {x k pos}{Q:Value→Shared→Prop}(H:aa0 s L) (h:∀ s' t,aa0 s' L→Q (.str x t) s'):wpAny (model pw w) A (eval (.Constant (.str x) k pos) env) Q E s:=
 Calls.Constant_str (h _ _ (H.keep (aab _)))
theorem arA {k pos}{Q:Value→Shared→Prop}(h:Q .none s):wpAny (model pw w) A (eval (.Constant .none k pos) env) Q E s:=fun J J J=>h
theorem arM {b k pos}{Q:Value→Shared→Prop}(h:Q (.bool b) s):wpAny (model pw w) A (eval (.Constant (.bool b) k pos) env) Q E s:=fun J J J=>h
theorem atH {x k pos pos'}{Q:Flow→Shared→Prop}(F:aa8 env ns gs) (H:aa0 s L) (h:∀ s',aa0 s' L→Q .next s'):wpAny (model pw w) A (exec (.Expr (.Constant (.str x) k pos) pos') env) Q E s:=
 wpAny_Expr (at6 H fun s' J H'=>h s' H') F.inter (by rfl)
section
variable {a b:Int}{t u:Tok}{Q:Value→Shared→Prop}(H:aa0 s L)
include H
theorem au8 (h:∀ s' t,aa0 s' L→Q (.int (a+b) t) s'):wpAny (model pw w) A (binaryOp .Add (.int a t) (.int b u)) Q E s:=wpAny_add_int (h _ _ (H.keep (aab _)))
theorem aub (h:∀ s' t,aa0 s' L→Q (.int (a - b) t) s'):wpAny (model pw w) A (binaryOp .Sub (.int a t) (.int b u)) Q E s:=sub_int (h _ _ (H.keep (aab _)))
theorem atw (ha : -1000000≤a∧a≤1000000) (h:∀ s' t,aa0 s' L→Q (.int (a * b) t) s'):wpAny (model pw w) A (binaryOp .Mult (.int a t) (.int b u)) Q E s:=
 mul_int (h _ _ (H.keep (aab _))) (IntMulOk.of_left (intBits_le_64 (by lia) (by lia)))
theorem ato (hb:b≠0) (h:∀ s' t,aa0 s' L→Q (.int (a.fmod b) t) s'):wpAny (model pw w) A (binaryOp .Mod (.int a t) (.int b u)) Q E s:=mod_int' hb (h _ _ (H.keep (aab _)))
theorem au2 (hb:b≠0) (hs : -1000000≤b∧b≤1000000) (h:∀ s' t,aa0 s' L→Q (.int (a.fdiv b) t) s'):wpAny (model pw w) A (binaryOp .FloorDiv (.int a t) (.int b u)) Q E s:=
 floordiv_int hb (h _ _ (H.keep (aab _))) (.inl (PyProof.noPylong_small (by omega)))
theorem as7 (h:∀ s' t,aa0 s' L→Q (.int (a+b) t) s'):wpAny (model pw w) A (inplaceOp .Add (.int a t) (.int b u)) Q E s:=wpAny_iadd_int (h _ _ (H.keep (aab _)))
theorem asl (h:∀ s' t,aa0 s' L→Q (.int (a - b) t) s'):wpAny (model pw w) A (inplaceOp .Sub (.int a t) (.int b u)) Q E s:=isub_int (h _ _ (H.keep (aab _)))
end
theorem aam {n:Nat}(h:Nat.ble n 1000=true:=by rfl):n≤1000:=Nat.le_of_ble_eq_true h
theorem aik {t:Addr}{items:Array Value}{n:Nat}{Q:List Value→Shared→Prop}(M:List Res) (hh:A.handled=none) (H:aa0 s (M++ac5 t items::L)) (hn:n=items.size) (h:∀ s',aa0 s' (M++ac5 t items::L)→Q items.toList s') :
  wpAny (model pw w) A (unpackItems (.ref t) n none) Q E s:=by
 subst hn
 exact unpackItems_tuple hh (H.at M) fun J he=>h _ (H.keep (aed he _))
theorem aa8.block (F:aa8 env ns gs):env.blockKind=.function:=by unfold Env.blockKind; rw[F.kind]; rfl
theorem aqP {x y:Str}{p1 p2:Pos}{k k' tp tp'}{e1 e2:Expr}(i j:Nat) (F:aa8 env ns gs) (hx:ns[i]? = some x:=by rfl) (hy:ns[j]? = some y:=by rfl)
  (hc:(decide (i≠j)&&(p2.line==p1.line)&&!([e1,e2].any fun | .Starred ..=>true | _=>false)&&!([e1,e2].all (foldedForSure 8))&&!([e1,e2].all (constantsAlone 8)))=true:=by rfl) :
  swappedStores [.Tuple [.Name x p1,.Name y p2] k tp] (.Tuple [e1,e2] k' tp') env=pure (some [x,y]):=by
 obtain⟨hc,h5⟩:=Bool.and_eq_true_iff.mp hc
 obtain⟨hc,h4⟩:=Bool.and_eq_true_iff.mp hc
 obtain⟨hc,h3⟩:=Bool.and_eq_true_iff.mp hc
 obtain⟨h1,h2⟩:=Bool.and_eq_true_iff.mp hc
 replace h1:=of_decide_eq_true h1
 replace h2:=beq_iff_eq.mp h2
 replace h3:=Bool.not_eq_true' _ |>.mp h3
 replace h4:=Bool.not_eq_true' _ |>.mp h4
 replace h5:=Bool.not_eq_true' _ |>.mp h5
 have hne:x≠y:=by
  rintro rfl
  have li:=(List.getElem?_eq_some_iff.mp hx).1
  exact h1 ((List.getElem?_inj li F.nd).mp (hx.trans hy.symm))
 have e1:env.kindOf x=some .local:=F.loc i x hx
 have e2:env.kindOf y=some .local:=F.loc j y hy
 have hn:∀ F:Expr→Option Str,F (.Name x p1)=some x→F (.Name y p2)=some y→List.filterMap F [.Name x p1,.Name y p2] = [x,y]:=fun F a b=>by
  rw[List.filterMap_cons_some a,List.filterMap_cons_some b]; rfl
 have hd:([x,y].eraseDups).length=2:=by
  simp[List.eraseDups_cons,Ne.symm hne]
 unfold swappedStores
 dsimp only
 rw[F.block]
 refine (if_neg Bool.false_ne_true).trans ((if_neg fun z=>Bool.noConfusion (h3.symm.trans z)).trans ?_)
 rw[hn _ (if_pos (by rw[e1]; exact beq_self_eq_true p1.line)) (if_pos (by rw[e2]; exact beq_iff_eq.mpr h2)),hd,h4,h5]
 rfl
end
noncomputable def kAt (P:Params) (i:Nat):Obj:=((K P).getD i (0,default)).2
noncomputable def aac (o:Obj):Array Value:=match o.data with | .fields vs=>vs | _=>#[]
noncomputable def abO:Option Value→Tok | some (.str _ t)=>t | _=>default
noncomputable def au4:FuncData:=kF (D2 2 1) "__get__" "_tuplegetter.__get__" 3 [] (.ref 36) (.none) (.none) (.str "matchpy.utils" 194) none (.ref 42) (.none) 0
noncomputable def arF:FuncData:=kF (D2 3 0) "__init__" "Multiset.__init__" 3 [] (.ref 73) (.none) (.none) (.str "matchpy.utils" 194) none (.ref 77) (.none) 0
noncomputable def atD:FuncData:=kF (D2 3 1) "__getitem__" "Multiset.__getitem__" 3 [] (.none) (.none) (.none) (.str "matchpy.utils" 194) none (.ref 84) (.none) 0
noncomputable def au1:FuncData:=kF (D2 3 2) "__setitem__" "Multiset.__setitem__" 3 [] (.none) (.none) (.none) (.str "matchpy.utils" 194) none (.ref 89) (.none) 0
noncomputable def arl:FuncData:=kF (D2 3 4) "__len__" "Multiset.__len__" 3 [] (.none) (.none) (.none) (.str "matchpy.utils" 194) none (.ref 103) (.none) 0
noncomputable def ao1:FuncData:=kF (D2 3 6) "items" "Multiset.items" 3 [] (.none) (.none) (.none) (.str "matchpy.utils" 194) none (.ref 115) (.none) 0
noncomputable def as1:FuncData:=kF (D 4) "_gcd" "_gcd" 3 [] (.none) (.none) (.none) (.str "matchpy.utils" 194) none (.ref 188) (.none) 0
noncomputable def asj:FuncData:=kF (D2 5 4) "__new__" "VariableWithCount.__new__" 3 [] (.none) (.none) (agQ (D2 5 4) 440) (.str "matchpy.utils" 194) none (.ref 206) (.none) 0
noncomputable def anY:FuncData:=kF (D 6) "_make_variable_generator_factory" "_make_variable_generator_factory" 3 [] (.none) (.none) (.none) (.str "matchpy.utils" 194) none (.ref 270) (.none) 0
noncomputable def asv:FuncData:=kF (D 7) "_commutative_single_variable_partiton_iter" "_commutative_single_variable_partiton_iter" 3 [] (.none) (.none) (.none) (.str "matchpy.utils" 194) none (.ref 277) (.none) 0
noncomputable def arH:FuncData:=kF (D 8) "commutative_sequence_variable_partition_iter" "commutative_sequence_variable_partition_iter" 3 [] (.none) (.none) (agQ (D 8) 584) (.str "matchpy.utils" 194) none (.ref 284) (.none) 0
noncomputable def as3:FuncData:=kF (D 9) "extended_euclid" "extended_euclid" 3 [] (.none) (.none) (agQ (D 9) 598) (.str "matchpy.utils" 194) none (.ref 291) (.none) 0
noncomputable def ar5:FuncData:=kF (D 10) "base_solution_linear" "base_solution_linear" 3 [] (.none) (.none) (agQ (D 10) 613) (.str "matchpy.utils" 194) none (.ref 298) (.none) 0
noncomputable def aoG:FuncData:=kF (D 11) "solve_linear_diop" "solve_linear_diop" 3 [] (.none) (.none) (agQ (D 11) 620) (.str "matchpy.utils" 194) none (.ref 303) (.none) 0
noncomputable def ahc:FuncData:=kF (D 12) "generator_chain" "generator_chain" 3 [] (.none) (.none) (agQ (D 12) 630) (.str "matchpy.utils" 194) none (.ref 310) (.none) 0
noncomputable def asI:FuncData:=kF (D 14) "_law_ways" "_law_ways" 3 [] (.none) (.none) (.none) (.str "law_jf0029_01" 632) none (.ref 317) (.none) 0
noncomputable def arp:FuncData:=kF (D 15) "_law_rows" "_law_rows" 3 [] (.none) (.none) (.none) (.str "law_jf0029_01" 632) none (.ref 322) (.none) 0
noncomputable def ass:FuncData:=kF (D 16) "_law_due" "_law_due" 3 [] (.none) (.none) (.none) (.str "law_jf0029_01" 632) none (.ref 327) (.none) 0
noncomputable def asw:FuncData:=kF (D 17) "law" "law" 3 [] (.none) (.none) (.none) (.str "law_jf0029_01" 632) none (.ref 332) (.none) 0
noncomputable def atJ:List Str:=["self", "obj", "objtype"]
noncomputable def atI:List Str:=["issubclass", "type", "tuple", "_wall"]
theorem X43:Fn au4 43 atJ atI where
 obj P:=⟨kAt P 6,mK 6 (by kernel_rfl),by kernel_rfl⟩
 code P:=⟨42,kAt P 5,aac (kAt P 5),abO (aac (kAt P 5))[1]?,by kernel_rfl,mK 5 (by kernel_rfl),by kernel_rfl,by kernel_rfl⟩
 chk:=by kernel_rfl
noncomputable def ash:List Str:=["self", "items", "item", "count"]
noncomputable def atz:List Str:=["isinstance", "Multiset", "dict"]
theorem X78:Fn arF 78 ash atz where
 obj P:=⟨kAt P 15,mK 15 (by kernel_rfl),by kernel_rfl⟩
 code P:=⟨77,kAt P 14,aac (kAt P 14),abO (aac (kAt P 14))[1]?,by kernel_rfl,mK 14 (by kernel_rfl),by kernel_rfl,by kernel_rfl⟩
 chk:=by kernel_rfl
noncomputable def atc:List Str:=["self", "item", "row"]
noncomputable def atN:List Str:=[]
theorem X85:Fn atD 85 atc atN where
 obj P:=⟨kAt P 17,mK 17 (by kernel_rfl),by kernel_rfl⟩
 code P:=⟨84,kAt P 16,aac (kAt P 16),abO (aac (kAt P 16))[1]?,by kernel_rfl,mK 16 (by kernel_rfl),by kernel_rfl,by kernel_rfl⟩
 chk:=by kernel_rfl
noncomputable def aoo:List Str:=["self", "item", "count", "row"]
noncomputable def asO:List Str:=[]
theorem X90:Fn au1 90 aoo asO where
 obj P:=⟨kAt P 19,mK 19 (by kernel_rfl),by kernel_rfl⟩
 code P:=⟨89,kAt P 18,aac (kAt P 18),abO (aac (kAt P 18))[1]?,by kernel_rfl,mK 18 (by kernel_rfl),by kernel_rfl,by kernel_rfl⟩
 chk:=by kernel_rfl
noncomputable def ap2:List Str:=["self", "total", "row"]
noncomputable def ar2:List Str:=[]
theorem atS:Fn arl 104 ap2 ar2 where
 obj P:=⟨kAt P 22,mK 22 (by kernel_rfl),by kernel_rfl⟩
 code P:=⟨103,kAt P 21,aac (kAt P 21),abO (aac (kAt P 21))[1]?,by kernel_rfl,mK 21 (by kernel_rfl),by kernel_rfl,by kernel_rfl⟩
 chk:=by kernel_rfl
noncomputable def ao2:List Str:=["self"]
noncomputable def asu:List Str:=[]
theorem asX:Fn ao1 116 ao2 asu where
 obj P:=⟨kAt P 25,mK 25 (by kernel_rfl),by kernel_rfl⟩
 code P:=⟨115,kAt P 24,aac (kAt P 24),abO (aac (kAt P 24))[1]?,by kernel_rfl,mK 24 (by kernel_rfl),by kernel_rfl,by kernel_rfl⟩
 chk:=by kernel_rfl
noncomputable def apz:List Str:=["a", "b"]
noncomputable def arX:List Str:=["abs"]
theorem aqZ:Fn as1 189 apz arX where
 obj P:=⟨kAt P 38,mK 38 (by kernel_rfl),by kernel_rfl⟩
 code P:=⟨188,kAt P 37,aac (kAt P 37),abO (aac (kAt P 37))[1]?,by kernel_rfl,mK 37 (by kernel_rfl),by kernel_rfl,by kernel_rfl⟩
 chk:=by kernel_rfl
noncomputable def ark:List Str:=["_cls", "name", "count", "minimum", "default"]
noncomputable def are:List Str:=["tuple"]
theorem au0:Fn asj 207 ark are where
 obj P:=⟨kAt P 44,mK 44 (by kernel_rfl),by kernel_rfl⟩
 code P:=⟨206,kAt P 43,aac (kAt P 43),abO (aac (kAt P 43))[1]?,by kernel_rfl,mK 43 (by kernel_rfl),by kernel_rfl,by kernel_rfl⟩
 chk:=by kernel_rfl
noncomputable def adN:List Str:=["values", "variable", "name", "count", "minimum", "default", "new_values", "element", "element_count"]
noncomputable def am3:List Str:=["len", "Multiset"]
theorem at0:Fn asv 278 adN am3 where
 obj P:=⟨kAt P 68,mK 68 (by kernel_rfl),by kernel_rfl⟩
 code P:=⟨277,kAt P 67,aac (kAt P 67),abO (aac (kAt P 67))[1]?,by kernel_rfl,mK 67 (by kernel_rfl),by kernel_rfl,by kernel_rfl⟩
 chk:=by kernel_rfl
noncomputable def aaZ:List Str:=["values", "variables", "generators", "value", "count", "initial", "subst", "valid", "var"]
noncomputable def agJ:List Str:=["len", "_commutative_single_variable_partiton_iter", "_make_variable_generator_factory", "dict", "generator_chain"]
theorem arn:Fn arH 285 aaZ agJ where
 obj P:=⟨kAt P 70,mK 70 (by kernel_rfl),by kernel_rfl⟩
 code P:=⟨284,kAt P 69,aac (kAt P 69),abO (aac (kAt P 69))[1]?,by kernel_rfl,mK 69 (by kernel_rfl),by kernel_rfl,by kernel_rfl⟩
 chk:=by kernel_rfl
noncomputable def arb:List Str:=["a", "b", "x0", "y0", "d", "x", "y"]
noncomputable def ase:List Str:=["extended_euclid"]
theorem aqX:Fn as3 292 arb ase where
 obj P:=⟨kAt P 72,mK 72 (by kernel_rfl),by kernel_rfl⟩
 code P:=⟨291,kAt P 71,aac (kAt P 71),abO (aac (kAt P 71))[1]?,by kernel_rfl,mK 71 (by kernel_rfl),by kernel_rfl,by kernel_rfl⟩
 chk:=by kernel_rfl
noncomputable def af9:List Str:=["a", "b", "c", "d", "x0", "y0", "x", "y"]
noncomputable def alo:List Str:=["ValueError", "_gcd", "extended_euclid"]
theorem arJ:Fn ar5 299 af9 alo where
 obj P:=⟨kAt P 74,mK 74 (by kernel_rfl),by kernel_rfl⟩
 code P:=⟨298,kAt P 73,aac (kAt P 73),abO (aac (kAt P 73))[1]?,by kernel_rfl,mK 73 (by kernel_rfl),by kernel_rfl,by kernel_rfl⟩
 chk:=by kernel_rfl
noncomputable def aiD:List Str:=["initial_data", "factories", "next_data"]
noncomputable def ajF:List Str:=["len", "generator_chain"]
theorem aqN:Fn ahc 311 aiD ajF where
 obj P:=⟨kAt P 78,mK 78 (by kernel_rfl),by kernel_rfl⟩
 code P:=⟨310,kAt P 77,aac (kAt P 77),abO (aac (kAt P 77))[1]?,by kernel_rfl,mK 77 (by kernel_rfl),by kernel_rfl,by kernel_rfl⟩
 chk:=by kernel_rfl
noncomputable def anV:List Str:=["total", "counts", "made", "k", "rest"]
noncomputable def aqy:List Str:=["range", "_law_ways"]
theorem aqL:Fn asI 318 anV aqy where
 obj P:=⟨kAt P 80,mK 80 (by kernel_rfl),by kernel_rfl⟩
 code P:=⟨317,kAt P 79,aac (kAt P 79),abO (aac (kAt P 79))[1]?,by kernel_rfl,mK 79 (by kernel_rfl),by kernel_rfl,by kernel_rfl⟩
 chk:=by kernel_rfl
noncomputable def akA:List Str:=["amounts", "variables", "rows", "amount", "longer", "way", "row"]
noncomputable def alB:List Str:=["_law_ways"]
theorem asN:Fn arp 323 akA alB where
 obj P:=⟨kAt P 82,mK 82 (by kernel_rfl),by kernel_rfl⟩
 code P:=⟨322,kAt P 81,aac (kAt P 81),abO (aac (kAt P 81))[1]?,by kernel_rfl,mK 81 (by kernel_rfl),by kernel_rfl,by kernel_rfl⟩
 chk:=by kernel_rfl
inductive Ben (s:Shared):Thread→Prop
 | mk (v g l k a r kw pos st fr b rest o n):splitAtGen st=some (fr,b,rest)→fr.any Frame.guarded=false→s.heap.get? a=some o→o.genNumber? = some n→Ben s ⟨.yield v g l k,.builtin "proto.yield_from" ⟨.ref a::r,kw⟩,pos,st⟩
open Classical in
noncomputable def okb (s:Shared) (t:Thread):Bool:=decide (t.loud=false∨Ben s t)
open Classical in
theorem amH {s:Shared}{t:Thread}(h:okb s t=true):t.loud=false∨Ben s t:=of_decide_eq_true h
open Classical in
theorem afA {s:Shared}{t:Thread}(h:t.loud=false):okb s t=true:=decide_eq_true (.inl h)
open Classical in
theorem an0 {s:Shared}{t:Thread}(h:Ben s t):okb s t=true:=decide_eq_true (.inr h)
section run
variable (den:Code→Sem Fin) (prog:Program) (w:World)
noncomputable def amY:Nat→Shared→Thread→Option (Outcome × Shared)
 | 0,_,_=>none
 | n+1,s,t=>match okb s t with
  | true=>match stepK den prog w s t with
   | .go s' t'=>amY n s' t'
   | .halt o s'=>some (o,s')
  | false=>none
theorem aiE {n:Nat}:∀ {s:Shared}{t:Thread}{o:Outcome}{s':Shared},amY den prog w n s t=some (o,s')→
  runNK den prog w n s t=.halted o s'∧∀ k s₁ t₁,k<n→runNK den prog w k s t=.running s₁ t₁→okb s₁ t₁=true:=by
 induction n with
 | zero=>intro s t o s' h; cases h
 | succ n ih=>
  intro s t o s' h
  rw[amY] at h
  generalize ho:okb s t=b at h
  cases b with
  | false=>cases h
  | true=>
   dsimp only at h
   generalize hs:stepK den prog w s t=x at h
   cases x with
   | go s₂ t₂=>
    dsimp only at h
    obtain⟨a,b⟩:=ih h
    refine⟨by rw[runNK,hs]; exact a,fun k s₁ t₁ hk hr=>?_⟩
    cases k with
    | zero=>injection hr with e1 e2; rw[← e1,← e2]; exact ho
    | succ k=>rw[runNK,hs] at hr; exact b k s₁ t₁ (Nat.lt_of_succ_lt_succ hk) hr
   | halt o2' s₂=>
    dsimp only at h
    cases h
    refine⟨by rw[runNK,hs],fun k s₁ t₁ hk hr=>?_⟩
    cases k with
    | zero=>injection hr with e1 e2; rw[← e1,← e2]; exact ho
    | succ k=>rw[runNK,hs] at hr; cases hr
theorem ah1 (t:Thread):t.forget.loud=t.loud:=by
 have h:=Thread.calm_forget t
 rw[Thread.calm_eq,Thread.calm_eq,show t.forget.refused=t.refused from ?_] at h
 ·cases hr:t.refused with
  | false=>rw[hr,Bool.not_false,Bool.and_true,Bool.and_true] at h; exact Bool.not_inj h
  | true=>
   obtain⟨cur,code,pos,st⟩:=t
   cases cur<;>first | rfl | exact absurd hr Bool.false_ne_true
 ·rfl
theorem aif {s:Shared}{t:Thread}:Ben s.forget t.forget↔Ben s t:=by
 constructor
 ·intro h
  obtain⟨cur,code,pos,st⟩:=t
  cases h with
  | mk v g l k a r kw pos' st' fr b rest o n h1 h2 h3 h4=>
   rw[splitAtGen_forgetAll] at h1
   obtain⟨x,hx,e⟩:=Option.map_eq_some_iff.mp h1
   cases e
   rw[any_guarded_forgetAll] at h2
   exact .mk v g l k a r kw pos st _ _ _ o n hx h2 h3 h4
 ·intro ⟨v,g,l,k,a,r,kw,pos,st,fr,b,rest,o,n,h1,h2,h3,h4⟩
  exact .mk v g l k a r kw _ _ _ _ _ o n ((splitAtGen_forgetAll st).trans (congrArg _ h1)) ((any_guarded_forgetAll fr).trans h2) h3 h4
open Classical in
theorem aez (s:Shared) (t:Thread):okb s.forget t.forget=okb s t:=by
 unfold okb
 rw[ah1]
 exact decide_eq_decide.mpr (or_congr_right aif)
theorem alm {s₁ s₂:Shared}{t₁ t₂:Thread}(hs:s₁.forget=s₂.forget) (ht:t₁.forget=t₂.forget):okb s₁ t₁=okb s₂ t₂:=by
 rw[← aez s₁ t₁,← aez s₂ t₂,hs,ht]
set_option tactic.hygienic true in
theorem ae8 (others:List Value) (s:Shared) (t:Thread) (h:Ben s t) (hz:s.asleep):lifeStep den prog w others s t=step den prog w s t:=by
 obtain⟨hr,hc⟩:=hz
 obtain⟨v,g,l,k,a,r,kw,pos,stack,frames,b,rest,o,n,e3,hf,ho,hn⟩:=h
 have hd:delegateShows s (.ref a)=false:=by
  unfold delegateShows
  simp only[ho,hn,hr]
  rfl
 have hshow:closingShows s frames (.builtin "proto.yield_from" ⟨.ref a::r,kw⟩) g=false:=by
  rw[show closingShows s frames (.builtin "proto.yield_from" ⟨.ref a::r,kw⟩) g=(frames.any Frame.guarded||(g&&delegateShows s (.ref a))) by kernel_rfl,hf,hd,Bool.and_false]; rfl
 cases hs:Thread.special ⟨.yield v g l k,.builtin "proto.yield_from" ⟨.ref a::r,kw⟩,pos,stack⟩ with
 | false=>exact lifeStep_eq_step den prog w others s _ hs hc
 | true=>
  generalize Code.builtin _ _=code at hs hshow
  rw[lifeStep,if_pos hs]
  dsimp only[collectorTurn?,Thread.atItsEnd]
  rw[e3]
  simp only[hshow,Bool.false_and,Bool.false_eq_true,if_false,stepCounting,hc]
theorem adz (s:Shared) (t:Thread) (h:Ben s t) (hz:s.asleep):sstep den prog w (.single s t)=(step den prog w s t).lift:=by
 have hl:=ae8 den prog w [] s t h hz
 have hw:s.watching=false:=by simp[Shared.watching,hz.1]
 obtain⟨v,g,l,k,a,r,kw,pos,stack,_,_,_,_,_,_,_,_,_⟩:=h
 generalize Code.builtin _ _=code at hl ⊢
 generalize ht:(⟨.yield v g l k,code,pos,stack⟩:Thread)=t at hl ⊢
 have h1:(Config.single s t).collect? w.params=none:=by
  unfold Config.collect?
  rw[show (Config.single s t).shared.watching=false from hw]; rfl
 have h2:(Config.single s t).collectable=[]:=by
  unfold Config.collectable
  rw[show (Config.single s t).shared.watching=false from hw]; rfl
 have h3:(Config.single s t).moves w.params.profile=[.run 0]:=by
  show (if t.atomic w.params.profile s.heap=true then t.moves s.heap 0 else movesFrom s.heap 0 [.live t])=_
  subst ht
  split<;>rfl
 have hp:(Config.single s t).pick w=.ok (.run 0,.single s t):=by
  have h4:(Config.single s t).pickThread w=.ok (.run 0,.single s t):=by unfold Config.pickThread; rw[h3]
  unfold Config.pick
  rw[h1,h2,h4]
  cases w.params.lifetimes<;>rfl
 have hrun:(Config.single s t).run den prog w 0=(step den prog w s t).lift:=by
  rw[← hl]
  subst ht
  have e:(if Thread.special ⟨.yield v g l k,code,pos,stack⟩=true then Config.others ⟨s,#[.live ⟨.yield v g l k,code,pos,stack⟩],0⟩ 0 else some [])=some []:=by split<;>rfl
  show (match (if Thread.special ⟨.yield v g l k,code,pos,stack⟩=true then Config.others ⟨s,#[.live ⟨.yield v g l k,code,pos,stack⟩],0⟩ 0 else some []) with
   | none=>SStep.halt (.stuck "scheduler: the collector is at work while another thread does not tell what it holds") s
   | some others=>_)=_
  rw[e]
  show (match lifeStep den prog w [] s ⟨.yield v g l k,code,pos,stack⟩ with
   | .go s' t'=>SStep.go ⟨s',#[.live t'],0⟩
   | .halt o s'=>.halt o s')=_
  cases lifeStep den prog w [] s ⟨.yield v g l k,code,pos,stack⟩<;>rfl
 rw[sstep,hp]
 exact hrun
theorem adw {s:Shared}{t:Thread}(h:t.refused=true):∃ what,step den prog w s t=.halt (.unsupported what) s:=by
 obtain⟨cur,code,pos,stack⟩:=t
 cases cur<;>first | exact⟨_,rfl⟩ | exact absurd h Bool.false_ne_true
theorem al9 {n:Nat}:∀ {s:Shared}{t:Thread}{o:Outcome}{s':Shared},s.asleep→runN den prog w n s t=.halted o s'→o.ends=true→
  (∀ k s₁ t₁,k<n→runN den prog w k s t=.running s₁ t₁→okb s₁ t₁=true)→schedN den prog w n (.single s t)=.halted o s':=by
 induction n with
 | zero=>intro s t o s' _ h; cases h
 | succ n ih=>
  intro s t o s' hz h ho hk
  have hk0:=hk 0 s t (Nat.succ_pos n) rfl
  have tail:∀ {s₂ t₂},step den prog w s t=.go s₂ t₂→sstep den prog w (.single s t)=(step den prog w s t).lift→schedN den prog w (n+1) (.single s t)=.halted o s':=by
   intro s₂ t₂ hs e
   rw[runN,hs] at h
   rw[schedN,e,hs]
   refine ih ?_ h ho fun k s₁ t₁ hl hr=>hk (k+1) s₁ t₁ (Nat.succ_lt_succ hl) (by rw[runN,hs]; exact hr)
   simp only[Shared.asleep,step_life den prog w s s₂ t t₂ hs]; exact hz
  have calm:t.loud=false→t.refused=false→t.calm=true:=fun h1 h2=>by rw[Thread.calm_eq,h1,h2]; rfl
  cases hs:step den prog w s t with
  | go s₂ t₂=>
   cases hl:t.loud with
   | true=>
    exact tail hs (adz den prog w s t ((amH hk0).resolve_left fun e=>Bool.noConfusion (hl.symm.trans e)) hz)
   | false=>
    have hr:t.refused=false:=by
     cases hr:t.refused with
     | false=>rfl
     | true=>
      obtain⟨what,e⟩:=adw den prog w (s:=s) hr
      rw[hs] at e; cases e
    refine tail hs ((sstep_single den prog w s t (calm hl hr) hz).resolve_right fun e=>?_)
    rw[hs] at e; cases e
  | halt o2' s₂=>
   rw[runN,hs] at h
   injection h with e1 e2
   subst e1 e2
   have e:sstep den prog w (.single s t)=(step den prog w s t).lift:=by
    cases hl:t.loud with
    | true=>exact adz den prog w s t ((amH hk0).resolve_left fun e=>Bool.noConfusion (hl.symm.trans e)) hz
    | false=>
     have hr:t.refused=false:=by
      cases hr:t.refused with
      | false=>rfl
      | true=>
       obtain⟨what,e⟩:=adw den prog w (s:=s) hr
       rw[hs] at e
       injection e with e _
       subst e; cases ho
     refine (sstep_single den prog w s t (calm hl hr) hz).resolve_right fun e=>?_
     rw[hs] at e
     injection e with e _
     subst e; cases ho
   rw[schedN,e,hs]; rfl
theorem aky {n:Nat}{s:Shared}{t:Thread}{o:Outcome}{s':Shared}(h:amY den prog w n s t=some (o,s')) (ho:o.ends=true) (hr:s.asleep) :
  ∃ s'',schedN den prog w n (.single s t)=.halted o s''∧runN den prog w n s t=.halted o s''∧s''.forget=s'.forget:=by
 obtain⟨hn,hk⟩:=aiE den prog w h
 obtain⟨s'',h2,hf⟩:=runNK_halted den prog w hn
 refine⟨s'',al9 den prog w hr h2 ho fun k s₁ t₁ hl hrun=>?_,h2,hf⟩
 have e:=runNK_same den prog w k (s₁:=s) (s₂:=s) (t₁:=t) (t₂:=t) rfl rfl
 rw[hrun] at e
 cases hq:runNK den prog w k s t with
 | halted o2' s₂=>rw[hq] at e; cases e
 | running s₂ t₂=>
  rw[hq] at e
  simp only[Run.forget] at e
  injection e with e1 e2
  rw[← alm e1 e2]
  exact hk k s₂ t₂ hl hq
end run
noncomputable def aao (M:Model) (R:Result→Shared→Prop) (s:Shared) (t:Thread):Prop:=∃ n r s',amY M.den M.prog M.w n s t=some (outcomeOf r,s')∧R r s'
section
variable {M:Model}{R:Result→Shared→Prop}{s s':Shared}{t t':Thread}
theorem aao.step (ho:okb s t=true) (hs:stepK M.den M.prog M.w s t=.go s' t') (h:aao M R s' t'):aao M R s t:=by
 obtain⟨n,r,s₁,hn,hR⟩:=h
 exact⟨n+1,r,s₁,by simp only[amY,ho,hs]; exact hn,hR⟩
theorem aao.go (hs:M.step s t=.go s' t') (h:aao M R s' t'):aao M R s t:=by
 have hl:t.loud=false:=by
  cases hl:t.loud with
  | false=>rfl
  | true=>rw[Model.step_loud M hl] at hs; cases hs
 rw[Model.step_quiet M hl] at hs
 exact h.step (afA hl) hs
theorem aao.reach {base:List Frame}{s t c p pre s' e}(hr:Reach M base s t c p pre s' e) (h:∀ t' c' p' pre',Exits e t' c' p' pre'→aao M R s' ⟨t',c',p',pre'++base⟩):aao M R s ⟨t,c,p,pre++base⟩:=by
 induction hr with
 | exit hx=>exact h _ _ _ _ hx
 | step hs _ ih=>exact aao.go hs (ih h)
theorem aao.returns {Γ:Ctx}{p:Pos}{r:Result}{base:List Frame}(hr:Returns M Γ p s r s') (hf:Γ.Fits base) (h:∀ c' p',aao M R s' ⟨leafOf r,c',p',base⟩):aao M R s ⟨M.den Γ.code,Γ.code,p,base⟩:=by
 refine aao.reach (base:=base) (pre:=[]) (runs_reach hr base hf) ?_
 rintro _ _ _ _ ⟨rfl,rfl⟩
 exact h _ _
theorem aao.runsGen {Γ:Ctx}{p p1':Pos}{e:End}{fs:List Frame}{tr:Sem Fin}{c1':Code}{st:List Frame}{g k l}(hr:Runs M (Γ.wake c1' p) p1' tr fs s e s') (hf:Γ.Fits st) (hq:e.quiet=true)
  (h:aao M R (s'.setGen g e.genState) ⟨k e.result,Γ.code,p,st⟩):aao M R s ⟨tr,c1',p1',fs++.gen g k l Γ.code p::st⟩:=by
 refine aao.reach (base:=.gen g k l Γ.code p::st) (runs_reach hr _ (hf.wake c1' g k l p)) ?_
 intro t' c' p' pre' hx
 exact aao.go (step_exit_gen _ _ _ _ _ _ _ hx hq) h
set_option tactic.hygienic true in
theorem alI {α:Type}{c:Code}{st:List Frame}(K:α→Sem Fin) (H:Value→Sem Fin) (gd:Bool→Bool) (lv:List Value→List Value) (m:Sem α) :
  ∀ {Q:α→Pos→Shared→Prop} {E:Value→Pos→Shared→Prop} {p:Pos} {s:Shared},Sem.wp M (Ctx.of c st) m Q E p s→
   (∀ a p' s',Q a p' s'→aao M R s' ⟨K a,c,p',st⟩)→(∀ e p' s',E e p' s'→aao M R s' ⟨H e,c,p',st⟩)→aao M R s ⟨m.wrap K H gd lv,c,p,st⟩:=by
 induction m with
 | pure a=>intro Q E p s h hQ _; exact hQ a p s h
 | raise x=>intro Q E p s h _ hE; exact hE x p s h
 | unsupported what=>intro Q E p s h; exact h.elim
 | finish x=>intro Q E p s h; exact h.elim
 | register a k=>intro Q E p s h; exact h.elim
 | yield v g l k=>intro Q E p s h; exact h.elim
 | fork c k=>intro Q E p s h; exact h.elim
 | await a f d l k=>intro Q E p s h; exact h.elim
 | rule tag k ih=>intro Q E p s h hQ hE; exact aao.go (step_rule ..) (ih () h hQ hE)
 | «at» p' k ih=>intro Q E p s h hQ hE; exact aao.go (step_at ..) (ih () h hQ hE)
 | load a part k ih=>intro Q E p s h hQ hE; obtain⟨o,ho,h⟩:=h; exact aao.go (step_load _ _ _ _ _ _ _ ho) (ih o h hQ hE)
 | update a part f k ih=>intro Q E p s h hQ hE; obtain⟨ha,h⟩:=h; exact aao.go (step_update _ _ _ _ _ _ _ _ ha) (ih () h hQ hE)
 | alloc o k ih=>intro Q E p s h hQ hE; exact aao.go (step_alloc ..) (ih _ h hQ hE)
 | loadIfAlive a k ih=>intro Q E p s h hQ hE; exact aao.go (step_loadIfAlive ..) (ih _ h hQ hE)
 | point l k ih=>intro Q E p s h hQ hE; exact aao.go (step_point ..) (ih () h hQ hE)
 | fresh k ih=>intro Q E p s h hQ hE; exact aao.go (step_fresh ..) (ih _ h hQ hE)
 | ask k ih=>intro Q E p s h hQ hE; exact aao.go (step_ask ..) (ih _ h hQ hE)
 | choose src n k ih=>intro Q E p s h hQ hE; obtain⟨hn,h⟩:=h; exact aao.go (step_choose _ _ _ _ _ _ _ hn) (ih _ h hQ hE)
 | os q l k ih=>intro Q E p s h hQ hE; exact aao.go (step_os ..) (ih _ h hQ hE)
 | call c' h g l k ih=>
  intro Q E p s hw hQ hE
  obtain⟨r,s₁,hret,hw⟩:=hw
  refine aao.go (step_call ..) (aao.returns hret (Ctx.Fits.enter (Ctx.fits_of c st) c' (fun r=>(k r).wrap K H gd lv) h (gd g) (lv l) p []) fun c'' p''=>?_)
  exact aao.go (step_leaf_ret ..) (ih r hw hQ hE)
 | handled own k ih=>
  intro Q E p s h hQ hE
  refine aao.go (step_handled ..) ?_
  have:=ih _ h hQ hE
  cases own<;>exact this
 | newGen c k ih=>intro Q E p s h hQ hE; exact aao.go (step_newGen ..) (ih _ h hQ hE)
 | genState g k ih=>intro Q E p s h hQ hE; obtain⟨st,hg,h⟩:=h; exact aao.go (step_genState _ _ _ _ _ _ hg) (ih _ h hQ hE)
 | resume g r l k ih=>
  intro Q E p s h hQ hE
  obtain⟨res,s₁,hwk,h⟩:=h
  have tail:=ih res h hQ hE
  unfold Wakes at hwk
  split at hwk
  ·exact hwk.elim
  ·rename_i c1' hg
   split at hwk
   ·obtain⟨e1'',s₂,hr,hq,rfl,rfl⟩:=hwk
    exact aao.go (step_resume_fresh _ _ _ _ _ _ _ hg) (aao.runsGen (fs:=[]) hr (Ctx.fits_of c st) hq tail)
   ·rename_i v hv
    obtain⟨rfl,rfl⟩:=hwk
    exact aao.go (step_resume_justStarted _ _ _ _ _ _ _ hg (fun e=>hv (by rw[e]))) tail
   ·obtain⟨rfl,rfl⟩:=hwk
    exact aao.go (step_resume_throwFresh _ _ _ _ _ _ _ _ hg) tail
  ·rename_i k0' l0 c0' p0' fs cl hg
   obtain⟨e1'',s₂,hr,hq,rfl,rfl⟩:=hwk
   exact aao.go (step_resume_suspended _ _ _ _ _ _ _ _ hg) (aao.runsGen hr (Ctx.fits_of c st) hq tail)
  ·rename_i hg
   obtain⟨rfl,rfl⟩:=hwk
   exact aao.go (step_resume_running _ _ _ _ _ _ _ _ hg) tail
  ·rename_i hg
   obtain⟨rfl,rfl⟩:=hwk
   exact aao.go (step_resume_finished _ _ _ _ _ _ _ _ hg) tail
 | stack k ih=>intro Q E p s h hQ hE; exact aao.go (step_stack ..) (ih _ h hQ hE)
 | thread k ih=>intro Q E p s h hQ hE; exact aao.go (step_thread ..) (ih _ h hQ hE)
end
noncomputable def wpX {α:Type}(M:Model) (A:Around) (m:Sem α) (Q:α→Shared→Prop) (E:Value→Shared→Prop) (s:Shared):Prop:=
 ∀ (R:Result→Shared→Prop) (c:Code) (st:List Frame) (p:Pos) (K:α→Sem Fin) (H:Value→Sem Fin) (gd:Bool→Bool) (lv:List Value→List Value),(Ctx.of c st).In A→
  (∀ a p' s',Q a s'→aao M R s' ⟨K a,c,p',st⟩)→(∀ e p' s',E e s'→aao M R s' ⟨H e,c,p',st⟩)→aao M R s ⟨m.wrap K H gd lv,c,p,st⟩
noncomputable def aaA (M:Model) (A:Around) (c:Code) (P:Result→Shared→Prop) (s:Shared):Prop:=
 ∀ (R:Result→Shared→Prop) (p:Pos) (st:List Frame),(Ctx.of c st).Below A→(∀ r c' p' s',P r s'→aao M R s' ⟨leafOf r,c',p',st⟩)→aao M R s ⟨M.den c,c,p,st⟩
noncomputable abbrev F0:Value→Shared→Prop:=fun J J=>False
section
variable {α β:Type}{M:Model}{A:Around}{E:Value→Shared→Prop}{s:Shared}
theorem abM {m:Sem α}{Q:α→Shared→Prop}(h:wpAny M A m Q E s):wpX M A m Q E s:=fun J J J p K H gd lv hin hQ hE=>alI K H gd lv m (h _ p hin) hQ hE
theorem aa4 {m:Sem α}{Q Q':α→Shared→Prop}{E':Value→Shared→Prop}(h:wpX M A m Q E s) (hQ:∀ a s,Q a s→Q' a s) (hE:∀ e s,E e s→E' e s):wpX M A m Q' E' s:=
 fun R c st p K H gd lv hin h1 h2=>h R c st p K H gd lv hin (fun a p' s' x=>h1 a p' s' (hQ a s' x)) fun e p' s' x=>h2 e p' s' (hE e s' x)
theorem aag {a:α}{Q:α→Shared→Prop}(h:Q a s):wpX M A (pure a) Q E s:=abM (wpAny_pure h)
theorem aad {m:Sem α}{f:α→Sem β}{Q:β→Shared→Prop}(h:wpX M A m (fun a s'=>wpX M A (f a) Q E s') E s):wpX M A (m >>= f) Q E s:=by
 intro R c st p K H gd lv hin h1 h2
 rw[Sem.bind_eq_wrap',Sem.wrap_wrap]
 exact h R c st p _ _ _ _ hin (fun a p' s' x=>x R c st p' K H gd lv hin h1 h2) fun e p' s' x=>h2 e p' s' x
theorem aby {m:Sem α}{f:α→Sem β}{Q:β→Shared→Prop}(h:wpAny M A m (fun a s'=>wpX M A (f a) Q E s') E s):wpX M A (m >>= f) Q E s:=aad (abM h)
theorem ab3 {vs:List Value}{m:Sem α}{Q:α→Shared→Prop}(h:wpX M A m Q E s):wpX M A (holding vs m) Q E s:=by
 intro R c st p K H gd lv hin h1 h2
 unfold holding
 split
 ·exact h R c st p _ _ _ _ hin h1 h2
 ·rw[Sem.keep_eq_wrap,Sem.wrap_wrap]
  exact h R c st p _ _ _ _ hin h1 h2
theorem aaF {m:Sem α}{k:Value→Sem Unit}{Q:α→Shared→Prop}(h:wpX M A m Q F0 s):wpX M A (m.onRaise k) Q E s:=by
 intro R c st p K H gd lv hin h1 h2
 rw[Sem.onRaise_eq_wrap,Sem.wrap_wrap]
 exact h R c st p _ _ _ _ hin h1 fun J J J x=>x.elim
theorem ac3 {m:Sem α}{Q:Except Value α→Shared→Prop}(h:wpX M A m (fun a=>Q (.ok a)) (fun e=>Q (.error e)) s):wpX M A m.attempt Q E s:=by
 intro R c st p K H gd lv hin h1 h2
 show aao M R s ⟨((m.bind fun a=>.pure (.ok a)).tryCatch fun e=>.pure (.error e)).wrap K H gd lv,c,p,st⟩
 rw[Sem.tryCatch_eq_wrap,Sem.bind_eq_wrap,Sem.wrap_wrap,Sem.wrap_wrap]
 exact h R c st p _ _ _ _ hin (fun a p' s' x=>h1 _ p' s' x) fun e p' s' x=>h1 _ p' s' x
theorem aaR {pos:Pos}{Q:Unit→Shared→Prop}(h:Q () s):wpX M A (standAt pos) Q E s:=abM (wpAny_standAt h)
theorem ajP {m:Sem α}{a:α}{Q:α→Shared→Prop}(e:m=pure a) (h:Q a s):wpX M A m Q E s:=by subst e; exact aag h
theorem ahn {Γ:Ctx}{st:List Frame}(hf:Γ.Fits st) (h:Γ.Below A) (c:Code):(Ctx.of c st).Below A:=
 ⟨by simp only[← h.1,hf.handled]; rfl,by have:=h.2.1; rw[hf.below] at this; exact this,fun l hl=>by have:=h.2.2.1 l hl; rw[hf.below] at this; exact this,fun g hg=>by have:=h.2.2.2.1 g hg; rw[hf.below] at this; exact this,
  by have:=h.2.2.2.2; rw[hf.below] at this; exact this⟩
theorem agI {c:Code} {Q:Flow→Shared→Prop} (hc:aaA M A c (fun r s'=>match r with | .ok f=>Q f s' | .error e=>E e s') s):wpX M A (run c) Q E s:=by
 intro R c0' st p K H gd lv hin h1 h2
 refine aao.go (step_call ..) (hc R p _ (ahn ((Ctx.fits_of c0' st).enter c _ none (gd false) (lv []) p []) (hin.enter c none p (by intro x; cases x)) c) fun r c' p' s' x=>?_)
 refine aao.go (step_leaf_ret ..) ?_
 cases r with
 | ok f=>exact h1 f _ _ x
 | error e=>exact h2 e _ _ x
theorem adq {c:Code} {Q:Value→Shared→Prop} (hc:aaA M A c (fun r s'=>match r with | .ok (.ret v)=>Q v s' | .ok _=>False | .error e=>E e s') s):wpX M A (runValue c) Q E s:=by
 unfold runValue
 refine aad (agI (fun R p st hb h=>hc R p st hb fun r c' p' s' x=>h r c' p' s' ?_))
 cases r with
 | error e=>exact x
 | ok f=>cases f with
  | ret v=>exact aag x
  | _=>exact x.elim
theorem acm {f:Value}{pos:List Value}{kw:List (Str × Value)}{Q:Value→Shared→Prop}
  (hc:aaA M A (.call f ⟨pos,kw⟩) (fun r s'=>match r with | .ok (.ret v)=>Q v s' | .ok _=>False | .error e=>E e s') s):wpX M A (PySem.call f pos kw) Q E s:=adq hc
theorem aeI {c:Code} {env:Env} {Q:Flow→Shared→Prop} (hc:aaA M A c (fun r s'=>match r with | .ok f=>Q f s' | .error _=>False) s):wpX M A (runOwn c env) Q E s:=by
 unfold runOwn
 exact aaF (agI hc)
theorem adJ {c:Code}{P:Result→Shared→Prop}(h:codeAny M A c P s):aaA M A c P s:=by
 intro R p st hb hP
 obtain⟨r,s',hr,hp⟩:=h (Ctx.of c st) p rfl hb
 exact aao.returns hr (Ctx.fits_of c st) fun c' p'=>hP r c' p' s' hp
theorem abl {c:Code}{P P':Result→Shared→Prop}(h:aaA M A c P s) (hP:∀ r s,P r s→P' r s):aaA M A c P' s:=fun R p st hb h'=>h R p st hb fun r c' p' s' x=>h' r c' p' s' (hP r s' x)
theorem ajt (m:Sem α):m.wrap .pure .raise id id=m:=by
 have h:=Sem.bind_eq_wrap m (Sem.pure:α→Sem α)
 exact (h)▸(bind_pure m)
theorem aax {c:Code} {P:Result→Shared→Prop} (h:wpX M (A.under c) (M.den c) (fun fin s'=>match fin with | .done f=>P (.ok f) s' | .again c'=>c'.quiet=true∧aaA M A c' P s') (fun e s'=>P (.error e) s') s):aaA M A c P s:=by
 intro R p st hb hP
 have x:=h R c st p .pure .raise id id hb.in (fun fin p' s' hf=>?_) (fun e p' s' he=>hP (.error e) c p' s' he)
 ·rw[ajt] at x; exact x
 ·cases fin with
  | done f=>exact hP (.ok f) c p' s' hf
  | again c'=>exact aao.go (step_again _ _ _ _ _ _ hf.1) (hf.2 R p' st hb hP)
theorem ad9 {c:Code}{P:Result→Shared→Prop}(hq:c.quiet=true) (I:Nat→Shared→Prop)
  (turn:∀ n s,I n s→wpX M (A.under c) (M.den c) (fun fin s'=>match fin with
    | .done f=>P (.ok f) s'
    | .again c'=>(c'=c∧∃ m,m<n∧I m s')∨(c'.quiet=true∧aaA M A c' P s')) (fun e s'=>P (.error e) s') s) (n:Nat) (h:I n s):aaA M A c P s:=by
 induction n using Nat.strongRecOn generalizing s with
 | ind n ih=>
  refine aax (aa4 (turn n s h) (fun fin s' hf=>?_) fun J J h'=>h')
  cases fin with
  | done f=>exact hf
  | again c'=>
   rcases hf with⟨rfl,m,hm,hI⟩ | hf
   ·exact⟨hq,ih m hm hI⟩
   ·exact hf
end
section
variable {prog:Program}{w:World}{A:Around}{E:Value→Shared→Prop}{s:Shared}{env:Env}
theorem ajE {P:Result→Shared→Prop}{target it body}(I:Nat→Shared→Prop)
  (turn:∀ n s,I n s→wpX (model prog w) A (pyNext it) (fun r s₁=>match r with
   | none=>P (.ok .next) s₁
   | some v=>wpX (model prog w) A (letOwnedTupleGo target it v) (fun J s1'=>wpX (model prog w) A (assign target env v) (fun J s₂=>wpX (model prog w) A (execs body env) (fun f s3=>match f with
      | .next | .cont=>∃ m,m<n∧I m s3
      | .brk=>P (.ok .next) s3
      | .ret v=>P (.ok (.ret v)) s3) F0 s₂) F0 s1') F0 s₁) F0 s)
  (n:Nat) (h:I n s):aaA (model prog w) A (.forLoop target it body [] env) P s:=by
 refine ad9 rfl I (fun n s hI=>?_) n h
 show wpX _ A ((forTurn target it body [] env).onRaise (fun x=>do noteFrame x env; theTreesLotGoes x)) _ _ s
 refine aaF ?_
 refine aad (aaR (aad (aaF (aa4 (turn n s hI) (fun r s₁ h1'=>?_) fun J J h'=>h'))))
 cases r with
 | none=>exact aag (.inr ⟨rfl,adJ (codeAny_block (wpAny_execs_nil h1'))⟩)
 | some v=>
  refine aad (aa4 h1' (fun J s1' h1''=>?_) fun J J h'=>h')
  refine aad (aa4 h1'' (fun J s₂ h2''=>aad (aa4 h2'' (fun f s3 h3'=>?_) fun J J h'=>h')) fun J J h'=>h')
  cases f with
  | next=>exact aag (.inl ⟨rfl,h3'⟩)
  | cont=>exact aag (.inl ⟨rfl,h3'⟩)
  | brk=>exact aag h3'
  | ret v=>exact aag h3'
theorem aoc {target iter body pos}{Q:Flow→Shared→Prop}
  (h:wpX (model prog w) A (eval iter env) (fun x s₁=>wpX (model prog w) A (pyIter x) (fun it s₂=>
   aaA (model prog w) A (.forLoop target it body [] env) (fun r s'=>match r with | .ok f=>Q f s' | .error _=>False) s₂) E s₁) E s)
  (hs:∀ x,foldedSetIterable iter env x=pure x:=by intro _; rfl):wpX (model prog w) A (exec (.For target iter body [] pos) env) Q E s:=by
 simp only[exec_For]
 exact aad (aaR (aad (aa4 h (fun x s₁ h1'=>aad (ajP (hs x) (aad (aaR (aad (ab3
  (aa4 h1' (fun it s₂ h2''=>aeI h2'') fun J J h'=>h'))))))) fun J J h'=>h')))
theorem aev {st rest} {Q:Flow→Shared→Prop} (h:wpX (model prog w) A (exec st env) (fun f s'=>match f with | .next=>wpX (model prog w) A (execs rest env) Q E s' | f=>Q f s') E s) :
  wpX (model prog w) A (execs (st::rest) env) Q E s:=by
 simp only[execs_cons]
 refine aad (aa4 h (fun f s' x=>?_) fun J J x=>x)
 cases f<;>first | exact x | exact aag x
theorem acR {Q:Flow→Shared→Prop}(h:Q .next s):wpX (model prog w) A (execs [] env) Q E s:=abM (wpAny_execs_nil h)
theorem aq0 {test body orelse pos}{Q:Flow→Shared→Prop}
  (h:wpX (model prog w) A (isTrue test env (eval test env)) (fun b s₂=>if b then wpX (model prog w) A (execs body env) Q E s₂ else wpX (model prog w) A (execs orelse env) Q E s₂) E s) :
  wpX (model prog w) A (exec (.If test body orelse pos) env) Q E s:=by
 simp only[exec_If]
 refine aad (aaR (aad (aa4 h (fun b s₂ x=>?_) fun J J x=>x)))
 cases b<;>exact x
theorem adb {P:Result→Shared→Prop}{body:List Stmt}
  (h:wpX (model prog w) (A.deeper env) (execs body env) (fun f s'=>P (.ok (.ret (match f with | .ret v=>v | _=>.none))) s') F0 s):aaA (model prog w) A (.func body env) P s:=by
 refine aax ?_
 show wpX _ (A.deeper env) (do point; match ← (execs body env).onRaise (leaving env) with | .ret v=>ret v | _=>ret .none) _ _ s
 refine aad (abM (wpAny_point (aad (aaF (aa4 h (fun f s' h'=>?_) fun J J h'=>h')))))
 cases f<;>exact aag h'
end
structure WP (w:World) {α:Type}(A:Around) (m:Sem α) (Q:α→Shared→Prop) (s:Shared):Prop where
 go:wpX (model pw w) A m Q F0 s
structure CP (w:World) (A:Around) (c:Code) (P:Flow→Shared→Prop) (s:Shared):Prop where
 go:aaA (model pw w) A c (fun r s'=>match r with | .ok f=>P f s' | .error _=>False) s
section
variable {α β:Type}{w:World}{A:Around}{s:Shared}{env:Env}
namespace WP
theorem of {m:Sem α}{Q:α→Shared→Prop}(h:wpAny (model pw w) A m Q F0 s):WP w A m Q s:=⟨abM h⟩
theorem mono {m:Sem α}{Q Q':α→Shared→Prop}(h:WP w A m Q s) (hQ:∀ a s,Q a s→Q' a s):WP w A m Q' s:=⟨aa4 h.go hQ fun J J x=>x⟩
theorem pure {a:α}{Q:α→Shared→Prop}(h:Q a s):WP w A (Pure.pure a) Q s:=⟨aag h⟩
theorem bind {m:Sem α}{f:α→Sem β}{Q:β→Shared→Prop}(h:WP w A m (fun a s'=>WP w A (f a) Q s') s):WP w A (m >>= f) Q s:=⟨aad (aa4 h.go (fun J J x=>x.go) fun J J x=>x)⟩
theorem hold {vs:List Value}{m:Sem α}{Q:α→Shared→Prop}(h:WP w A m Q s):WP w A (holding vs m) Q s:=⟨ab3 h.go⟩
theorem stand {pos:Pos}{Q:Unit→Shared→Prop}(h:Q () s):WP w A (standAt pos) Q s:=⟨aaR h⟩
theorem release {a b:List Value}{Q:Unit→Shared→Prop}(h:Q () s):WP w A (PySem.release a b) Q s:=.of fun Γ p J=>by rw[Sem.wp_release]; exact h
theorem operate {vs:List Value}{m:Sem Value}{Q:Value→Shared→Prop}(h:WP w A m Q s):WP w A (PySem.operate vs m) Q s:=by
 unfold PySem.operate
 exact bind (hold (h.mono fun r s' x=>bind (release (pure x))))
theorem eq {m:Sem α}{a:α}{Q:α→Shared→Prop}(e:m=Pure.pure a) (h:Q a s):WP w A m Q s:=by subst e; exact pure h
theorem ite {c:Prop}[Decidable c] {a b:Sem α}{Q:α→Shared→Prop}(h:if c then WP w A a Q s else WP w A b Q s):WP w A (if c then a else b) Q s:=by split<;>simp_all
theorem point {Q:Unit→Shared→Prop}(h:Q () s):WP w A PySem.point Q s:=.of (wpAny_point h)
theorem bindName {x:Str}{v:Value}{Q:Unit→Shared→Prop}(h:WP w A (storeName env x v) Q s):WP w A (PySem.bindName env x v) Q s:=by
 unfold PySem.bindName
 exact bind (hold (point (bind (h.mono fun J J x=>point x))))
theorem ltE {e:Expr}{Q:Value→Shared→Prop}(h:let Q':=Q; WP w A (eval e env) Q' s):WP w A (eval e env) Q s:=h
theorem ltS {l:List (Bool × Sem Value)}{Q:List Value→Shared→Prop}(h:let Q':=Q; WP w A (spliced l) Q' s):WP w A (spliced l) Q s:=h
theorem ltX {st:Stmt}{Q:Flow→Shared→Prop}(h:let Q':=Q; WP w A (exec st env) Q' s):WP w A (exec st env) Q s:=h
theorem rule {t:String}{Q:Unit→Shared→Prop}(h:Q () s):WP w A (PySem.rule t) Q s:=.of (wpAny_rule h)
end WP
theorem aa0.lt {s:Shared}{R:Res}{T:List Res}{G:Prop}(H:aa0 s (R::T)) (h:let T':=T; aa0 s (R::T')→G):G:=h H
theorem aa0.ltF {s:Shared}{l:Addr}{ns:List Str}{vs:List (Option Value)}{T:List Res}{G:Prop}(H:aa0 s (aa1 l (aal ns vs)::T)) (h:let vs':=vs; let T':=T; aa0 s (aa1 l (aal ns vs')::T')→G):G:=h H
theorem ifP {c:Prop}[Decidable c] {A B:Prop}(h:c) (k:A):if c then A else B:=by rw[if_pos h]; exact k
theorem ifN {c:Prop}[Decidable c] {A B:Prop}(h:¬ c) (k:B):if c then A else B:=by rw[if_neg h]; exact k
section
variable {α:Type}(w:World) (A:Around) (env:Env)
noncomputable abbrev qS (rest:List Stmt) (Q:Flow→Shared→Prop):Flow→Shared→Prop:=fun f s'=>match f with | .next=>WP w A (execs rest env) Q s' | f=>Q f s'
noncomputable abbrev qN (Q:Flow→Shared→Prop):α→Shared→Prop:=fun J s=>Q .next s
noncomputable abbrev qA (x:Str) (Q:Flow→Shared→Prop):Value→Shared→Prop:=fun v s₁=>WP w A (storeName env x v) (qN Q) s₁
noncomputable abbrev qB2 (op:Operator) (a:Value) (Q:Value→Shared→Prop):Value→Shared→Prop:=fun b s₂=>WP w A (binaryOp op a b) Q s₂
noncomputable abbrev qB (r:Expr) (op:Operator) (Q:Value→Shared→Prop):Value→Shared→Prop:=fun a s₁=>WP w A (eval r env) (qB2 w A op a Q) s₁
noncomputable abbrev qT (Q:Bool→Shared→Prop):Value→Shared→Prop:=fun c s3=>WP w A (truthy c) Q s3
noncomputable abbrev qC2 (op:CmpOp) (a:Value) (Q:Value→Shared→Prop):Value→Shared→Prop:=fun b s₂=>WP w A (compareOp op a b) Q s₂
noncomputable abbrev qC (r:Expr) (op:CmpOp) (Q:Value→Shared→Prop):Value→Shared→Prop:=fun a s₁=>WP w A (eval r env) (qC2 w A op a Q) s₁
noncomputable abbrev qP2 (v:Value) (Q:List Value→Shared→Prop):List Value→Shared→Prop:=fun vs s₂=>Q (v::vs) s₂
noncomputable abbrev qP (pos:Pos) (rest:List Expr) (Q:List Value→Shared→Prop):Value→Shared→Prop:=fun v s₁=>WP w A (spliced (backTo pos (starEach rest env))) (qP2 v Q) s₁
noncomputable abbrev qCl (f:Value) (Q:Value→Shared→Prop):List Value→Shared→Prop:=fun vs s₁=>WP w A (call f vs) Q s₁
noncomputable abbrev qCg (f:Value) (Q:Value→Shared→Prop):List Value→Shared→Prop:=fun vs s₁=>Bs w s₁.heap∧WP w A (call f vs) Q s₁
noncomputable abbrev qU2 (value slice:Expr) (o:Value) (Q:Value→Shared→Prop):Value→Shared→Prop:=fun i s₂=>WP w A (subscriptTail value slice o i) Q s₂
noncomputable abbrev qU (value slice:Expr) (Q:Value→Shared→Prop):Value→Shared→Prop:=fun o s₁=>WP w A (eval slice env) (qU2 w A value slice o Q) s₁
noncomputable abbrev qAt (attr:Str) (Q:Value→Shared→Prop):Value→Shared→Prop:=fun o s₁=>WP w A (getAttr o attr true) Q s₁
noncomputable abbrev qR (Q:Flow→Shared→Prop):Value→Shared→Prop:=fun v s'=>Q (.ret v) s'
noncomputable abbrev qF2 (target:Expr) (body:List Stmt) (Q:Flow→Shared→Prop):Value→Shared→Prop:=fun it s₂=>CP w A (.forLoop target it body [] env) Q s₂
noncomputable abbrev qF (target:Expr) (body:List Stmt) (Q:Flow→Shared→Prop):Value→Shared→Prop:=fun x s₁=>WP w A (pyIter x) (qF2 w A env target body Q) s₁
noncomputable abbrev qO (ts:List (Value→Sem Unit)) (xs:List Value) (Q:Unit→Shared→Prop):Unit→Shared→Prop:=fun J s₁=>WP w A (assignInOrder ts xs) Q s₁
end
theorem aaL {Q:Flow→Shared→Prop}(h:Q .next s):WP w A (execs [] env) Q s:=⟨acR h⟩
theorem aa7 {st rest}{Q:Flow→Shared→Prop}(h:WP w A (exec st env) (qS w A env rest Q) s):WP w A (execs (st::rest) env) Q s:=
 ⟨aev (aa4 h.go (fun f s' x=>by cases f<;>first | exact x.go | exact x) fun J J x=>x)⟩
theorem dIf {test body orelse pos}{Q:Flow→Shared→Prop}(h:WP w A (isTrue test env (eval test env)) (fun b s₂=>if b then WP w A (execs body env) Q s₂ else WP w A (execs orelse env) Q s₂) s) :
  WP w A (exec (.If test body orelse pos) env) Q s:=⟨aq0 (aa4 h.go (fun b s' x=>by cases b<;>exact x.go) fun J J x=>x)⟩
theorem agD {e pos}{Q:Flow→Shared→Prop}(h:WP w A (eval e env) (qR Q) s):WP w A (exec (.Return (some e) pos) env) Q s:=by
 simp only[exec_Return_some]
 exact .bind (.stand (.bind (h.mono fun J J x=>.pure x)))
theorem afM {pos}{Q:Flow→Shared→Prop}(h:Q (.ret .none) s):WP w A (exec (.Return none pos) env) Q s:=.of (wpAny_Return_none h)
theorem ac8 {x pos' value pos}{Q:Flow→Shared→Prop}(h:WP w A (eval value env) (qA w A env x Q) s)
  (hs:swapsWith value (some (.Name x pos')) pos.line env=pure false:=by rfl):WP w A (exec (.Assign [.Name x pos'] value pos) env) Q s:=by
 rw[exec_Assign_Name env x pos' value pos hs]
 exact .bind (.stand (.bind (h.mono fun v s₁ x=>.bind (.stand (.bind (.bindName (x.mono fun J J y=>.pure y)))))))
theorem aqV {x pos' op value pos}{Q:Flow→Shared→Prop}(h:WP w A (loadName env x) (fun old s₁=>WP w A (eval value env) (fun v s₂=>WP w A (inplaceOp op old v) (fun n s3=>WP w A (storeName env x n) (fun J=>Q .next) s3) s₂) s₁) s) :
  WP w A (exec (.AugAssign (.Name x pos') op value pos) env) Q s:=by
 simp only[exec_AugAssign_Name]
 exact .bind (.stand (.bind (h.mono fun old s₁ h1'=>.bind (.hold (h1'.mono fun v s₂ h2''=>.bind (.stand (.bind (.operate (h2''.mono fun n s3 h3'=>.bind (.stand (.bind (.bindName (h3'.mono fun J J x=>.pure x)))))))))))))
theorem afi {e pos}{Q:Flow→Shared→Prop}(F:interactive env=false) (h:WP w A (eval e env) (fun v s'=>WP w A (dropValue e pos v) Q s') s) (hs:swapsWith e none pos.line env=pure false:=by rfl):WP w A (exec (.Expr e pos) env) Q s:=by
 rw[exec_Expr env e pos F hs]
 exact .bind (.stand (.bind h))
theorem agE {elts k tpos value pos}{Q:Flow→Shared→Prop}(h:WP w A (eval value env) (fun v s₁=>WP w A (assign (.Tuple elts k tpos) env v) (fun J=>Q .next) s₁) s)
  (hs:swapsWithSole [.Tuple elts k tpos] value pos.line env=pure false:=by rfl) (hw:swappedStores [.Tuple elts k tpos] value env=pure none:=by rfl):WP w A (exec (.Assign [.Tuple elts k tpos] value pos) env) Q s:=by
 simp only[exec_Assign]
 refine .bind (.stand (.bind (.eq hs ?_)))
 refine .bind (h.mono fun v s₁ h1'=>.bind (.eq hw ?_))
 exact .bind (h1'.mono fun J J x=>.pure x)
theorem adG {elts k tpos value pos}{names:List Str}{Q:Flow→Shared→Prop}
  (hw:swappedStores [.Tuple elts k tpos] value env=pure (some names))
  (h:WP w A (eval value env) (fun v s₁=>WP w A (unpackItems v names.length none) (fun items s₂=>WP w A (assignInOrder (names.reverse.map fun n=>bindName env n) items.reverse) (fun J=>Q .next) s₂) s₁) s)
  (hs:swapsWithSole [.Tuple elts k tpos] value pos.line env=pure false:=by rfl):WP w A (exec (.Assign [.Tuple elts k tpos] value pos) env) Q s:=by
 simp only[exec_Assign]
 refine .bind (.stand (.bind (.eq hs ?_)))
 refine .bind (h.mono fun v s₁ h1'=>.bind (.eq hw ?_))
 exact .bind (.rule (.bind (h1'.mono fun items s₂ h2''=>.bind (h2''.mono fun J J x=>.pure x))))
theorem aiL {Q:Unit→Shared→Prop}(h:Q () s):WP w A (assignInOrder [] []) Q s:=.pure h
theorem aaV {t:Value→Sem Unit}{ts:List (Value→Sem Unit)}{x:Value}{xs:List Value}{Q:Unit→Shared→Prop}(h:WP w A (t x) (qO w A ts xs Q) s):WP w A (assignInOrder (t::ts) (x::xs)) Q s:=
 .bind (.hold h)
theorem ajf {x:Str}{pos:Pos}{v:Value}{Q:Unit→Shared→Prop}(h:WP w A (storeName env x v) Q s):WP w A (assign (.Name x pos) env v) Q s:=by
 show WP w A (do standAt pos; bindName env x v) Q s
 exact .bind (.stand (.bindName h))
theorem abG {l op r pos}{Q:Value→Shared→Prop}(h:WP w A (eval l env) (qB w A env r op Q) s):WP w A (eval (.BinOp l op r pos) env) Q s:=by
 simp only[eval_BinOp]
 exact .bind (h.mono fun a s₁ h1'=>.bind (.hold (h1'.mono fun b s₂ h2''=>.bind (.stand (.operate h2'')))))
theorem asP {l op r pos}{Q:Value→Shared→Prop}(h:WP w A (eval l env) (qC w A env r op Q) s) (hm:behindInMarks op r=false:=by with_unfolding_all rfl):WP w A (eval (.Compare l [op] [r] pos) env) Q s:=by
 rw[eval_Compare1,markedBehindIn_of_false hm]
 exact .bind (h.mono fun a s₁ h1'=>.bind (.hold (h1'.mono fun b s₂ h2''=>.bind (.stand (.operate h2'')))))
theorem dUn {op x pos}{Q:Value→Shared→Prop}(h:WP w A (eval x env) (fun a s₁=>WP w A (unaryOp op a) Q s₁) s):WP w A (eval (.UnaryOp op x pos) env) Q s:=by
 simp only[arm_eval_UnaryOp]
 exact .bind (h.mono fun a s₁ h1'=>.bind (.stand (.hold h1')))
theorem abS {l op r pos whole}{Q:Bool→Shared→Prop}(h:WP w A (eval l env) (qC w A env r op (qT w A Q)) s) (hm:behindInMarks op r=false:=by with_unfolding_all rfl) :
  WP w A (isTrue (.Compare l [op] [r] pos) env whole) Q s:=by
 rw[isTrue_Compare1,markedBehindIn_of_false hm]
 exact .bind (h.mono fun a s₁ h1'=>.bind (.hold (h1'.mono fun b s₂ h2''=>.bind (.stand (.bind (.operate (h2''.mono fun c s3 h3'=>.hold h3')))))))
theorem abP {e:Expr}{whole:Sem Value}{Q:Bool→Shared→Prop}(h:WP w A whole (qT w A Q) s) (he:isTrue e env whole=(do let v ← whole; standAt e.pos; holding [v] (truthy v)):=by rfl):WP w A (isTrue e env whole) Q s:=by
 rw[he]
 exact .bind (h.mono fun v s₁ h1'=>.bind (.stand (.hold h1')))
theorem arT {x pos whole}{Q:Bool→Shared→Prop}(h:WP w A (isTrue x env (eval x env)) (fun c s'=>Q (!c) s') s):WP w A (isTrue (.UnaryOp .Not x pos) env whole) Q s:=by
 simp only[arm_isTrue_UnaryOp]
 exact .bind (h.mono fun c s' x=>.pure x)
theorem ahQ {op values pos whole}{Q:Bool→Shared→Prop}(h:WP w A (allTrue op values env) Q s):WP w A (isTrue (.BoolOp op values pos) env whole) Q s:=h
theorem amq {x rest}{Q:Bool→Shared→Prop}(h:WP w A (isTrue x env (eval x env)) (fun c s₁=>if c then WP w A (allTrue .And rest env) Q s₁ else Q false s₁) s):WP w A (allTrue .And (x::rest) env) Q s:=by
 simp only[arm_allTrue_cons]
 exact .bind (h.mono fun c s₁ h1'=>by cases c<;>first | exact h1' | exact .pure h1')
theorem tOr {x rest}{Q:Bool→Shared→Prop}(h:WP w A (isTrue x env (eval x env)) (fun c s₁=>if c then Q true s₁ else WP w A (allTrue .Or rest env) Q s₁) s):WP w A (allTrue .Or (x::rest) env) Q s:=by
 simp only[arm_allTrue_cons]
 exact .bind (h.mono fun c s₁ h1'=>by cases c<;>first | exact h1' | exact .pure h1')
theorem agG {Q:Bool→Shared→Prop}(h:Q true s):WP w A (allTrue .And [] env) Q s:=.pure h
theorem amF {Q:Bool→Shared→Prop}(h:Q false s):WP w A (allTrue .Or [] env) Q s:=.pure h
theorem tB {b:Bool}{Q:Bool→Shared→Prop}(h:Q b s):WP w A (truthy (.bool b)) Q s:=.of (wpAny_truthy_bool h)
theorem tI {a:Int}{t:Tok}{Q:Bool→Shared→Prop}(h:Q (a != 0) s):WP w A (truthy (.int a t)) Q s:=.of (truthy_int h)
theorem anZ {test body orelse pos}{Q:Value→Shared→Prop}(h:WP w A (isTrue test env (eval test env)) (fun b s₁=>if b then WP w A (eval body env) Q s₁ else WP w A (eval orelse env) Q s₁) s):WP w A (eval (.IfExp test body orelse pos) env) Q s:=by
 simp only[arm_eval_IfExp]
 exact .bind (h.mono fun b s₁ h1'=>by cases b<;>exact h1')
theorem aa6 {pos:Pos}{Q:List Value→Shared→Prop}(h:Q [] s):WP w A (spliced (backTo pos (starEach [] env))) Q s:=.pure h
theorem aa3 {e:Expr}{rest:List Expr}{pos:Pos}{Q:List Value→Shared→Prop}(h:WP w A (eval e env) (qP w A env pos rest Q) s)
  (he:starEach (e::rest) env=(false,eval e env)::starEach rest env:=by rfl):WP w A (spliced (backTo pos (starEach (e::rest) env))) Q s:=by
 rw[he]
 show WP w A (spliced ((false,eval e env)::backTo pos (starEach rest env))) Q s
 refine .bind (h.mono fun v s₁ h1'=>?_)
 exact .bind (.pure (.bind (.hold (h1'.mono fun vs s₂ h2''=>.pure h2''))))
theorem aem {target iter body pos}{Q:Flow→Shared→Prop}(h:WP w A (eval iter env) (qF w A env target body Q) s)
  (hs:∀ x,foldedSetIterable iter env x=pure x:=by intro _; rfl):WP w A (exec (.For target iter body [] pos) env) Q s:=
 ⟨aoc (aa4 h.go (fun J J x=>aa4 x.go (fun J J y=>y.go) fun J J x=>x) fun J J x=>x) hs⟩
inductive Nxt (I:Nat→Shared→Prop) (n:Nat) (s:Shared):Prop
 | mk (m:Nat):m<n→I m s→Nxt I n s
theorem Nxt.ex {I:Nat→Shared→Prop} {n:Nat} {s:Shared} (h:Nxt I n s):∃ m,m<n∧I m s:=match h with | ⟨m,a,b⟩=>⟨m,a,b⟩
theorem CP.mono {c:Code} {P P':Flow→Shared→Prop} (h:CP w A c P s) (hp:∀ f s,P f s→P' f s):CP w A c P' s:=⟨abl h.go fun r s x=>by cases r with | error e=>exact x | ok f=>exact hp f s x⟩
noncomputable abbrev qLp (I:Nat→Shared→Prop) (n:Nat) (P:Flow→Shared→Prop):Flow→Shared→Prop:=fun f s3=>match f with
 | .next | .cont=>Nxt I n s3
 | .brk=>P .next s3
 | .ret v=>P (.ret v) s3
noncomputable abbrev qLo (w:World) (A:Around) (env:Env) (target:Expr) (body:List Stmt) (it:Value) (I:Nat→Shared→Prop) (n:Nat) (P:Flow→Shared→Prop):Option Value→Shared→Prop:=fun r s₁=>match r with
 | none=>P .next s₁
 | some v=>WP w A (letOwnedTupleGo target it v) (fun J s1'=>WP w A (assign target env v) (fun J s₂=>WP w A (execs body env) (qLp I n P) s₂) s1') s₁
theorem abB {P:Flow→Shared→Prop}{target it body}(I:Nat→Shared→Prop)
  (turn:∀ n s,I n s→WP w A (pyNext it) (qLo w A env target body it I n P) s)
  (n:Nat) (h:I n s):CP w A (.forLoop target it body [] env) P s:=
 ⟨ajE I (fun n s hI=>aa4 (turn n s hI).go (fun r s₁ x=>by
  cases r with
  | none=>exact x
  | some v=>exact aa4 x.go (fun J J x=>aa4 x.go (fun J J x=>aa4 x.go (fun f J x=>by cases f<;>first | exact x | exact x.ex) fun J J x=>x) fun J J x=>x) fun J J x=>x) fun J J x=>x) n h⟩
theorem ap4 {test body pos}{Q:Flow→Shared→Prop}(h:CP w A (.whileLoop test body [] env) Q s):WP w A (exec (.While test body [] pos) env) Q s:=by
 simp only[exec_While]
 exact .bind (.stand ⟨aeI h.go⟩)
theorem app {P:Flow→Shared→Prop}{test body}(I:Nat→Shared→Prop)
  (turn:∀ n s,I n s→WP w A (isTrue test env (eval test env)) (fun b s₂=>if b then WP w A (execs body env) (fun f s3=>match f with
      | .next | .cont=>Nxt I n s3
      | .brk=>P .next s3
      | .ret v=>P (.ret v) s3) s₂ else P .next s₂) s)
  (n:Nat) (h:I n s):CP w A (.whileLoop test body [] env) P s:=by
 refine⟨ad9 rfl I (fun n s hI=>?_) n h⟩
 show wpX _ A ((whileTurn test body [] env).onRaise (fun x=>do noteFrame x env; theTreesLotGoes x)) _ _ s
 refine aaF ?_
 simp only[whileTurn]
 refine aad (aa4 (turn n s hI).go (fun b s₂ h2''=>?_) fun J J h'=>h')
 cases b with
 | false=>
  exact aad (aa4 (acR (Q:=fun f s'=>f=.next∧P .next s') ⟨rfl,h2''⟩) (fun f s3 h3'=>aag (by obtain⟨rfl,h3'⟩:=h3'; exact h3')) fun J J h'=>h')
 | true=>
  refine aad (aa4 h2''.go (fun f s3 h3'=>?_) fun J J h'=>h')
  cases f with
  | next=>exact aag (.inl ⟨rfl,h3'.ex⟩)
  | cont=>exact aag (.inl ⟨rfl,h3'.ex⟩)
  | brk=>exact aag h3'
  | ret v=>exact aag h3'
end
set_option hygiene false in
local macro_rules
 | `(tactic| exists 0)=>`(tactic| (refine aa0.ltF H ?_; intro V' T' H))
 | `(tactic| exists $e:term)=>`(tactic| (refine $e; try ((first | with_reducible refine WP.ltE ?_ | with_reducible refine WP.ltS ?_ | with_reducible refine WP.ltX ?_); intro Q')))
 | `(tactic| exists $e:term,$es:term,*)=>`(tactic| (exists $e; exists $es:term,*))
theorem aan:1000≤sizeLine:=by decide +kernel
section
variable {w:World}{A:Around}{s:Shared}{env:Env}{L:List Res}{ns gs:List Str}{vs:List (Option Value)}
theorem dL (i:Nat) {x:Str}{pos:Pos}{v:Value}{Q:Value→Shared→Prop}(F:aa8 env ns gs) (H:aa0 s (aa1 env.locals (aal ns vs)::L)) (hv:vs[i]? = some (some v)) (h:Q v s) (hx:ns[i]? = some x:=by rfl) :
  WP w A (eval (.Name x pos) env) Q s:=.of (ldL i F H hv h hx)
theorem sL (i:Nat) {x:Str}{v:Value}{Q:Unit→Shared→Prop}(F:aa8 env ns gs) (H:aa0 s (aa1 env.locals (aal ns vs)::L)) (hl:ns.length=vs.length)
  (h:∀ s',aa0 s' (aa1 env.locals (aal ns (vs.set i (some v)))::L)→Q () s') (hx:ns[i]? = some x:=by rfl):WP w A (storeName env x v) Q s:=.of (stL i F H hl h hx)
theorem dG (j i:Nat) {x:Str}{pos:Pos}{v:Value}{Q:Value→Shared→Prop}(F:aa8 env ns gs) (b:Bs w s.heap) (h:Q v s) (hx:gs[j]? = some x:=by rfl) (hg:gl[i]? = some (x,v):=by rfl):WP w A (eval (.Name x pos) env) Q s:=.of (ldG j i F b h hx hg)
theorem dB (j i:Nat) {x:Str}{pos:Pos}{v:Value}{Q:Value→Shared→Prop}(F:aa8 env ns gs) (b:Bs w s.heap) (h:Q v s) (hx:gs[j]? = some x:=by rfl) (hg:bl[i]? = some (x,v):=by rfl):WP w A (eval (.Name x pos) env) Q s:=.of (ldB j i F b h hx hg)
theorem aaW {i k pos}{Q:Value→Shared→Prop}(H:aa0 s L) (h:∀ s' t,aa0 s' L→Q (.int i t) s'):WP w A (eval (.Constant (.int i) k pos) env) Q s:=.of (atG H h)
theorem aoS {x k pos}{Q:Value→Shared→Prop}(H:aa0 s L) (h:∀ s' t,aa0 s' L→Q (.str x t) s'):WP w A (eval (.Constant (.str x) k pos) env) Q s:=.of (at6 H h)
theorem ad5 {k pos}{Q:Value→Shared→Prop}(h:Q .none s):WP w A (eval (.Constant .none k pos) env) Q s:=.of (arA h)
theorem akL {b k pos}{Q:Value→Shared→Prop}(h:Q (.bool b) s):WP w A (eval (.Constant (.bool b) k pos) env) Q s:=.of (arM h)
theorem akG {x k pos pos'}{Q:Flow→Shared→Prop}(F:aa8 env ns gs) (H:aa0 s L) (h:∀ s',aa0 s' L→Q .next s'):WP w A (exec (.Expr (.Constant (.str x) k pos) pos') env) Q s:=.of (atH F H h)
section
variable {a b:Int}{t u:Tok}{Q:Value→Shared→Prop}
theorem ana (H:aa0 s L) (h:∀ s' t,aa0 s' L→Q (.int (a+b) t) s'):WP w A (binaryOp .Add (.int a t) (.int b u)) Q s:=.of (au8 H h)
theorem arj (H:aa0 s L) (h:∀ s' t,aa0 s' L→Q (.int (a - b) t) s'):WP w A (binaryOp .Sub (.int a t) (.int b u)) Q s:=.of (aub H h)
theorem aqS (H:aa0 s L) (ha : -1000000≤a∧a≤1000000) (h:∀ s' t,aa0 s' L→Q (.int (a * b) t) s'):WP w A (binaryOp .Mult (.int a t) (.int b u)) Q s:=.of (atw H ha h)
theorem akE (H:aa0 s L) (hb:b≠0) (h:∀ s' t,aa0 s' L→Q (.int (a.fmod b) t) s'):WP w A (binaryOp .Mod (.int a t) (.int b u)) Q s:=.of (ato H hb h)
theorem aiI (H:aa0 s L) (hb:b≠0) (hs : -1000000≤b∧b≤1000000) (h:∀ s' t,aa0 s' L→Q (.int (a.fdiv b) t) s'):WP w A (binaryOp .FloorDiv (.int a t) (.int b u)) Q s:=.of (au2 H hb hs h)
theorem apg (H:aa0 s L) (h:∀ s' t,aa0 s' L→Q (.int (a+b) t) s'):WP w A (inplaceOp .Add (.int a t) (.int b u)) Q s:=.of (as7 H h)
theorem api (H:aa0 s L) (h:∀ s' t,aa0 s' L→Q (.int (a - b) t) s'):WP w A (inplaceOp .Sub (.int a t) (.int b u)) Q s:=.of (asl H h)
theorem dEq (h:Q (.bool (a==b)) s):WP w A (compareOp .Eq (.int a t) (.int b u)) Q s:=.of (eq_int h)
theorem dNe (h:Q (.bool (a != b)) s):WP w A (compareOp .NotEq (.int a t) (.int b u)) Q s:=.of (ne_int h)
theorem dLt (h:Q (.bool (decide (a<b))) s):WP w A (compareOp .Lt (.int a t) (.int b u)) Q s:=.of (lt_int h)
theorem dGt (h:Q (.bool (decide (b<a))) s):WP w A (compareOp .Gt (.int a t) (.int b u)) Q s:=.of (gt_int h)
theorem dLe (h:Q (.bool (decide (a≤b))) s):WP w A (compareOp .LtE (.int a t) (.int b u)) Q s:=.of (le_int h)
theorem dGe (h:Q (.bool (decide (b≤a))) s):WP w A (compareOp .GtE (.int a t) (.int b u)) Q s:=.of (ge_int h)
theorem an1 {v:Value}(h:Q (.bool (v==.none)) s):WP w A (compareOp .Is v .none) Q s:=.of (is_none h)
theorem spL (i:Nat) {x:Str}{p pos:Pos}{v:Value}{rest:List Expr}{Q:List Value→Shared→Prop}(F:aa8 env ns gs) (H:aa0 s (aa1 env.locals (aal ns vs)::L)) (hv:vs[i]? = some (some v)) (h:WP w A (spliced (backTo pos (starEach rest env))) (qP2 v Q) s) (hx:ns[i]? = some x:=by rfl) :
  WP w A (spliced (backTo pos (starEach (.Name x p::rest) env))) Q s:=aa3 (dL i F H hv h hx)
theorem aS (i:Nat) {x:Str}{p:Pos}{v:Value}{Q:Unit→Shared→Prop}(F:aa8 env ns gs) (H:aa0 s (aa1 env.locals (aal ns vs)::L)) (hl:ns.length=vs.length)
  (h:∀ s',aa0 s' (aa1 env.locals (aal ns (vs.set i (some v)))::L)→Q () s') (hx:ns[i]? = some x:=by rfl):WP w A (assign (.Name x p) env v) Q s:=ajf (sL i F H hl h hx)
theorem tLI (i:Nat) {x:Str}{p q pos:Pos}{op:CmpOp}{k:Int}{n:Nat}{v:Value}{whole:Sem Value}{Q:Bool→Shared→Prop}(F:aa8 env ns gs) (H:aa0 s (aa1 env.locals (aal ns vs)::L)) (hv:vs[i]? = some (some v))
  (h:∀ s' t,aa0 s' (aa1 env.locals (aal ns vs)::L)→WP w A (compareOp op v (.int k t)) (qT w A Q) s') (hx:ns[i]? = some x:=by rfl) (hm:behindInMarks op (.Constant (.int k) n q)=false:=by with_unfolding_all rfl) :
  WP w A (isTrue (.Compare (.Name x p) [op] [.Constant (.int k) n q] pos) env whole) Q s:=abS (dL i F H hv (aaW H h) hx) hm
theorem tEq {Q:Bool→Shared→Prop}(h:Q (a==b) s):WP w A (compareOp .Eq (.int a t) (.int b u)) (qT w A Q) s:=dEq (tB h)
end
inductive at1 (f:Addr→Array Value→Res) (vs:List Value) (Q:Value→Shared→Prop) (s:Shared):Prop
 | mk (R R₂ L):aa0 s (R::R₂::L)→vs.length≤1000→(∀ s' a,aa0 s' (R::R₂::f a vs.toArray::L)→Q (.ref a) s')→at1 f vs Q s
noncomputable abbrev qNR (f:Addr→Array Value→Res) (Q:Value→Shared→Prop):List Value→Shared→Prop:=fun vs s₁=>at1 f vs Q s₁
theorem ael {elts k pos}{Q:Value→Shared→Prop}
  (h:WP w A (spliced (backTo pos (starEach elts env))) (qNR ac5 Q) s) :
  WP w A (eval (.Tuple elts k pos) env) Q s:=by
 simp only[arm_eval_Tuple]
 refine .bind (.stand (.bind (h.mono fun vs s₁ x=>.of (wpAny_newObj_type ?_ ?_))))
 ·obtain⟨R,R₂,L,H,hs,h'⟩:=x
  exact h' _ _ (H.made (R':=ac5 _ _) (.of (fun J J e=>Heap.get?_push_of_some _ e) rfl rfl ⟨_,Heap.get?_push_size _ rfl,rfl,_,rfl⟩ aa9 fun J z=>z))
 ·obtain⟨R,R₂,L,H,hs,h'⟩:=x
  show vs.toArray.size≤sizeLine
  exact Nat.le_trans hs aan
theorem ab5 {elts pos}{Q:Value→Shared→Prop}
  (h:WP w A (spliced (backTo pos (starEach elts env))) (qNR aa2 Q) s) :
  WP w A (eval (.List elts pos) env) Q s:=by
 simp only[arm_eval_List]
 refine .bind (.stand (.bind (h.mono fun vs s₁ x=>.of (wpAny_newObj_type ?_ ?_))))
 ·obtain⟨R,R₂,L,H,hs,h'⟩:=x
  exact h' _ _ (H.made (R':=aa2 _ _) (.of (fun J J e=>Heap.get?_push_of_some _ e) rfl rfl ⟨_,Heap.get?_push_size _ rfl⟩ aa9 fun J z=>z))
 ·obtain⟨R,R₂,L,H,hs,h'⟩:=x
  show vs.toArray.size≤sizeLine
  exact Nat.le_trans hs aan
theorem abH {t:Addr}{items:Array Value}{n:Nat}{Q:List Value→Shared→Prop}(M:List Res) (hh:A.handled=none) (H:aa0 s (M++ac5 t items::L)) (hn:n=items.size) (h:∀ s',aa0 s' (M++ac5 t items::L)→Q items.toList s') :
  WP w A (unpackItems (.ref t) n none) Q s:=.of (aik M hh H hn h)
theorem aqT {t:Addr}{items:Array Value}{elts:List Expr}{x1}{pos:Pos}{Q:Unit→Shared→Prop}(M:List Res) (hh:A.handled=none) (H:aa0 s (M++ac5 t items::L))
  (h:∀ s',aa0 s' (M++ac5 t items::L)→WP w A (assignInOrder ((assignEach elts env).map (·.2)) items.toList) Q s')
  (hn:(assignEach elts env).length=items.size:=by rfl) (hstar:(assignEach elts env).findIdx? (·.1)=none:=by rfl):WP w A (assign (.Tuple elts x1 pos) env (.ref t)) Q s:=by
 simp only[arm_assign_Tuple]
 refine .bind (.stand ?_)
 unfold unpack
 rw[hn,hstar]
 exact .bind (.hold (abH M hh H rfl h))
theorem apx {elts:List Expr}{x1}{pos:Pos}{value:Expr}{spos:Pos}{Q:Flow→Shared→Prop}(h:WP w A (eval value env) (fun v s₁=>WP w A (assign (.Tuple elts x1 pos) env v) (fun J=>Q .next) s₁) s)
  (hs:swapsWithSole [.Tuple elts x1 pos] value spos.line env=pure false:=by rfl) (hw:swappedStores [.Tuple elts x1 pos] value env=pure none:=by rfl):WP w A (exec (.Assign [.Tuple elts x1 pos] value spos) env) Q s:=agE h hs hw
theorem aeT {x np pos args}{Q:Value→Shared→Prop}(h:WP w A (eval (.Name x np) env) (fun f s₁=>WP w A (callWith pos f [] (backTo pos (starEach args env)) []) Q s₁) s):WP w A (eval (.Call (.Name x np) args [] pos) env) Q s:=by
 show WP w A (do callWith pos (← eval (.Name x np) env) [] (backTo pos (starEach args env)) (backToKw pos (keywordEach [] env))) Q s
 exact .bind h
theorem aaG {f:Value}{x:Sem Value}{rest:List (Bool × Sem Value)}{Q:Args→Shared→Prop}(h:WP w A (spliced ((false,x)::rest)) (fun vs s'=>Q ⟨vs,[]⟩ s') s):WP w A (evalArgs f true ((false,x)::rest) []) Q s:=by
 exact .bind (h.mono fun vs s' h'=>.hold (.bind (.pure (.bind (.pure (.pure h'))))))
theorem adE {f:Value}{Q:Args→Shared→Prop}(h:Q ⟨[],[]⟩ s):WP w A (evalArgs f true [] []) Q s:=.of (evalArgs_empty h)
theorem WP.keep {α:Type}{vs:List Value}{m:Sem α}{Q:α→Shared→Prop}(h:WP w A m Q s):WP w A (m.keep vs) Q s:=by
 refine⟨fun R c st p K H gd lv hin h1 h2=>?_⟩
 rw[Sem.keep_eq_wrap,Sem.wrap_wrap]
 exact h.go R c st p _ _ _ _ hin h1 h2
theorem abY {pos:Pos}{a:Addr}{o:Obj}{fd:FuncData}{first:List Value}{args:List (Bool × Sem Value)}{Q:Value→Shared→Prop}
  (h:WP w A (evalArgs (.ref a) true args []) (fun x s₁=>(s₁.heap.get? a=some o∧o.data=.func fd)∧WP w A (call (.ref a) (first++x.pos) x.kw) Q s₁) s) :
  WP w A (callWith pos (.ref a) first args []) Q s:=by
 have fin:∀ {t:Sem Value} {s₁:Shared},WP w A t Q s₁→WP w A (t >>= fun r=>holding [r] point >>= fun J=>pure r) Q s₁:=fun ht=>.bind (ht.mono fun r s₂ hr=>.bind (.hold (.point (.pure hr))))
 refine .bind (.hold (h.mono fun x s₁ h1'=>.bind (.stand ?_)))
 have kp:WP w A (keeperOf (.ref a)) (fun k s'=>k=.frame∧s'=s₁) s₁:=by
  unfold keeperOf
  refine .bind (.of (wpAny_load h1'.1.1 ?_))
  exact (h1'.1.2)▸(⟨aag ⟨rfl,rfl⟩⟩)
 dsimp only
 generalize (args.any (·.1)||List.any [] _)=st
 refine .bind (kp.mono fun k s' hk=>?_)
 obtain⟨rfl,rfl⟩:=hk
 cases st with
 | true=>exact fin (WP.keep h1'.2)
 | false=>
  dsimp only
  by_cases c:args.length+2 * List.length ([]:List (Option Str × Sem Value))>30
  ·rw[if_pos c]
   exact fin h1'.2
  ·rw[if_neg c]
   exact fin (WP.keep h1'.2)
theorem acj {fd:FuncData}{f:Addr}{ns' gs':List Str}{x np pos e rest}{fp gp s0}{R:Res}{Q:Value→Shared→Prop}(j i:Nat) (F:aa8 env ns gs) (X:Fn fd f ns' gs') (H:aa0 s (R::aa5 w fp gp s0::L))
  (h:WP w A (spliced (backTo pos (starEach (e::rest) env))) (qCg w A (.ref f) Q) s)
  (hx:gs[j]? = some x:=by rfl) (hg:gl[i]? = some (x,.ref f):=by rfl) (he:starEach (e::rest) env=(false,eval e env)::starEach rest env:=by rfl) :
  WP w A (eval (.Call (.Name x np) (e::rest) [] pos) env) Q s:=by
 exists aeT (dG j i F H.bs ?_ hx hg)
 obtain⟨o,hoK,hod⟩:=X.obj w.params
 refine abY (o:=o) (fd:=fd) ?_
 rw[he] at h ⊢
 exact aaG (h.mono fun vs s₁ ⟨b,h1'⟩=>⟨⟨b.k _ hoK,hod⟩,h1'⟩)
theorem ada {P:Result→Shared→Prop}{a:Addr}{args:Args}{o:Obj}{fd:FuncData}{body:List Stmt}(hroom:A.depth<recursionLimit) (ho:s.heap.get? a=some o) (hd:o.data=.func fd)
  (hco:fd.scope.isCoroutine=false) (hgen:fd.scope.isGenerator=false) (hbody:fd.body=.stmts body) (hcd:s.heap.CodeRec fd.code fd.qualname)
  (h:wpAny (model pw w) A.in1 (bindArgs fd args) (fun binds s₁=>
   wpAny (model pw w) A.in1 (newFunctionEnv fd.scope fd.globals fd.closure binds (fd.qualname ++ ".<locals>.") (some a) fd.code none fd.builtins)
    (fun env s₂=>s₂.heap.NoLimit∧aaA (model pw w) A (.func body env) P s₂) F0 s₁) F0 s):aaA (model pw w) A (.call (.ref a) args) P s:=by
 refine aax (aa4 (E:=F0) (Q:=fun fin s'=>match fin with | .done f=>P (.ok f) s' | .again c'=>c'.quiet=true∧aaA (model pw w) A c' P s') (abM ?_) (fun J J x=>x) fun J J x=>x.elim)
 show wpAny _ A.in1 (callAny (.ref a) args) _ _ s
 obtain⟨c,oc,vs,tq,hc,hoc,hdc,hq⟩:=hcd
 refine wpAny_bind (wpAny_load ho ?_)
 simp only[hd,callFunction,hco,hgen,hbody,hc]
 rw[hc] at h
 refine wpAny_bind (m:=field (.ref c) 1) (wpAny_field hoc hdc hq (wpAny_bind (wpAny_pure ?_)))
 exact wpAny_bind (wpAny_mono h (fun binds s₁ h1'=>wpAny_bind (wpAny_mono h1' (fun env s₂ h2''=>wpAny_bind (wpAny_enterFrame h2''.1 hroom (wpAny_pure ⟨rfl,h2''.2⟩))) fun J J x=>x)) fun J J x=>x)
theorem adi {fd:FuncData}{f:Addr}{ns gs:List Str}{body:List Stmt}{vals:List Value}{vs:List (Option Value)}{Q:Value→Shared→Prop}{d u:Nat}
  (X:Fn fd f ns gs) (r:aah A (d+1) (u+3)) (b:Bs w s.heap) (H:aa0 s L) (hbody:fd.body=.stmts body) (hbind:BindsTo s fd ⟨vals,[]⟩ ((ns.take vals.length).zip vals)) (hl:vals.length≤ns.length) (hv:vs=vals.map some++List.replicate (ns.length - vals.length) none)
  (h:∀ A' env s₁,aah A' d u→aa8 env ns gs→aa0 s₁ (aa1 env.locals (aal ns vs)::L)→WP w A' (execs body env) (fun fl s'=>Q (aiv fl) s') s₁)
  (hgen:fd.scope.isGenerator=false:=by rfl):WP w A (call (.ref f) vals) Q s:=by
 obtain⟨o,hoK,hod⟩:=X.obj w.params
 have hc:=X.chk
 obtain⟨h1,h2,h3,h4,h5,h6,h7,h8,h9⟩:=anz hc
 refine⟨acm (ada (fd:=fd) (body:=body) r.lt (b.k _ hoK) hod h2 hgen hbody (X.codeRec b) (hbind _ _ _ _ (wpAny_newFunctionEnv (fun x hx e=>by
   have:=h9 x hx
   rw[e] at this; revert this; decide) (fun x hx=>h4 x.1 (List.mem_of_mem_take (List.of_mem_zip hx).1)) (fun h0' hns hsb=>⟨b.nolimit.fresh _ hsb,adb ?_⟩) h1)))⟩
 have hk:∀ b o,s.heap.get? b=some o→h0'.get? b=some o:=fun b o e=>hsb.extBut b o (Nat.ne_of_lt (Heap.lt_size e)) (Heap.get?_push_of_some _ e)
 have m:acr (aa1 s.heap.objs.size (aal ns vs)) s { s with heap:=h0',toks:=s.toks+((ns.take vals.length).zip vals).length }:=.of hk rfl rfl (abh hns fun y=>by
  have e:ns=ns.take vals.length++ns.drop vals.length:=(List.take_append_drop _ _).symm
  simp only[aay (ns.take vals.length) vals (ns.drop vals.length) (List.replicate (ns.length - vals.length) none) y (by rw[← e]; exact h3) (by rw[List.length_take]; lia) (fun z hz=>(List.mem_replicate.mp hz).2),← e,hv]) aa9 fun g z=>z
 refine aa4 (h _ _ _ (r.deeper _) (X.env s.heap.objs.size f) (H.add m)).go (fun fl s' hq=>?_) fun J J x=>x
 cases fl<;>exact hq
end
structure GP (w:World) (A:Around) (c:Code) (fs:List Frame) (t:Sem PySem.Fin) (QR:Shared→Prop) (QY:Value→GenState→Shared→Prop) (s:Shared):Prop where
 go:∀ (R:Result→Shared→Prop) (p:Pos) (g:Nat) (kg:GenResult→Sem PySem.Fin) (lg:List Value) (cg:Code) (pg:Pos) (st:List Frame),(Ctx.of c (.gen g kg lg cg pg::st)).Below A→
  (∀ s',QR s'→aao (model pw w) R (s'.setGen g .finished) ⟨kg (.returned .none),cg,pg,st⟩)→
  (∀ v gs' s',QY v gs' s'→aao (model pw w) R (s'.setGen g gs') ⟨kg (.yielded v),cg,pg,st⟩)→
  aao (model pw w) R s ⟨t,c,p,fs++.gen g kg lg cg pg::st⟩
noncomputable def acd (w:World) (A:Around) (gs:GenState) (QR:Shared→Prop) (QY:Value→GenState→Shared→Prop) (s:Shared):Prop:=
 match gs with
 | .fresh c=>GP w A c [] ((model pw w).den c) QR QY s
 | .suspended k _ c _ fs _=>GP w A c fs (k (.send .none)) QR QY s
 | _=>False
section
variable {w:World}{A:Around}{c:Code}{fs:List Frame}{QR:Shared→Prop}{QY:Value→GenState→Shared→Prop}{s:Shared}{env:Env}{α:Type}
theorem GP.lt {t:Sem PySem.Fin}(h:let QR':=QR; let QY':=QY; GP w A c fs t QR' QY' s):GP w A c fs t QR QY s:=h
theorem aqK {t:Sem PySem.Fin}{QR':Shared→Prop}{QY':Value→GenState→Shared→Prop}(h:GP w A c fs t QR QY s) (h1:∀ s,QR s→QR' s) (h2:∀ v gs s,QY v gs s→QY' v gs s):GP w A c fs t QR' QY' s:=
 ⟨fun R p g kg lg cg pg st hb a b=>h.go R p g kg lg cg pg st hb (fun s' x=>a s' (h1 s' x)) fun v gs' s' x=>b v gs' s' (h2 v gs' s' x)⟩
noncomputable abbrev qG {α:Type}(w:World) (A:Around) (c:Code) (fs:List Frame) (K:α→Sem PySem.Fin) (QR:Shared→Prop) (QY:Value→GenState→Shared→Prop):α→Shared→Prop:=fun f s'=>GP w A c fs (K f) QR QY s'
theorem ag0 {m:Sem α}{K:α→Sem PySem.Fin}{H:Value→Sem PySem.Fin}{gd lv}(h:WP w (A.over c fs) m (qG w A c fs K QR QY) s):GP w A c fs (m.wrap K H gd lv) QR QY s:=by
 refine⟨fun R p g kg lg cg pg st hb a b=>?_⟩
 refine h.go R c (fs++.gen g kg lg cg pg::st) p K H gd lv ?_ (fun x p' s' y=>y.go R p' g kg lg cg pg st hb a b) fun J J J x=>x.elim
 rw[Ctx.of_append]
 exact Ctx.Woken.over (Γ:=Ctx.of c (.gen g kg lg cg pg::st)) ⟨hb,rfl⟩ fs
theorem aaU {m:Sem α}{β:Type}{f:α→Sem β}{K:β→Sem PySem.Fin}{H:Value→Sem PySem.Fin}{gd lv}(h:WP w (A.over c fs) m (fun a s'=>GP w A c fs ((f a).wrap K H gd lv) QR QY s') s):GP w A c fs ((m >>= f).wrap K H gd lv) QR QY s:=by
 rw[Sem.bind_eq_wrap',Sem.wrap_wrap]
 exact ag0 h
theorem afm (h:QR s):GP w A c [] (leafOf (.ok (.ret .none))) QR QY s:=
 ⟨fun R p g kg lg cg pg st hb a b=>aao.go (step_leaf_gen ..) (a s h)⟩
theorem aeq {k h g l c1' p1' kp}(r:Result) (hk:GP w A c1' fs (k r) QR QY s):GP w A c (.ret k h g l c1' p1' kp::fs) (leafOf r) QR QY s:=
 ⟨fun R p g kg lg cg pg st hb a b=>aao.go (step_leaf_ret ..) (hk.go R p1' g kg lg cg pg st hb a b)⟩
theorem apZ {c':Code}{h g l}{k:Result→Sem PySem.Fin}(hc:∀ p,GP w A c' (.ret k h g l c p []::fs) ((model pw w).den c') QR QY s):GP w A c fs (.call c' h g l k) QR QY s:=
 ⟨fun R p g kg lg cg pg st hb a b=>aao.go (step_call ..) ((hc p).go R p g kg lg cg pg st hb a b)⟩
theorem abA {c':Code}(hq:c'.quiet=true) (hc:GP w A c' fs ((model pw w).den c') QR QY s):GP w A c fs (.pure (.again c')) QR QY s:=
 ⟨fun R p g kg lg cg pg st hb a b=>aao.go (step_again _ _ _ _ _ _ hq) (hc.go R p g kg lg cg pg st hb a b)⟩
theorem ajO {v gd l}{k:Resume→Sem PySem.Fin}(hfs:splitAtGen fs=none) (hfg:fs.any Frame.guarded=false)
  (hb:gd=false∨∃ a r kw,c=.builtin "proto.yield_from" ⟨.ref a::r,kw⟩∧((s.heap.get? a).any fun o=>o.genNumber?.isSome)=true)
  (h:∀ p,QY v (.suspended k l c p fs gd) s):GP w A c fs (.yield v gd l k) QR QY s:=by
 refine⟨fun R p g kg lg cg pg st hbw a b=>?_⟩
 have hsp:splitAtGen (fs++.gen g kg lg cg pg::st)=some (fs,(g,kg,cg,pg),st):=by simp only[splitAtGen_append_none _ hfs,splitAtGen_gen]; simp
 have ok:okb s ⟨.yield v gd l k,c,p,fs++.gen g kg lg cg pg::st⟩=true:=by
  rcases hb with rfl | ⟨a',r,kw,rfl,ho⟩
  ·exact afA (by rw[Thread.loud_yield _ _ l k c p hsp,hfg]; rfl)
  ·cases hg:s.heap.get? a' with
   | none=>rw[hg] at ho; cases ho
   | some o=>rw[hg] at ho; exact an0 (.mk _ _ _ _ a' r kw _ _ _ _ _ o _ hsp hfg hg (Option.eq_some_of_isSome ho))
 refine aao.step (s':=s.setGen g (.suspended k l c p fs gd)) (t':=⟨kg (.yielded v),cg,pg,st⟩) ok ?_ (b v _ s (h p))
 simp only[PySem.stepK,PySem.step,hsp]
 rw[hfg,Bool.or_false]; rfl
end
noncomputable def aei (h:Heap) (a:Addr) (g:Nat) (z:Bool):Prop:=
 ∃ o nm qn,h.get? a=some o∧o.cls=.type "generator" ∧ o.data=.fields #[.int g 0,nm,qn]∧(match z with | true=>o.slots = #[some (rawInt 1)] | false=>o.slots = #[]∨o.slots = #[some (rawInt 0)])
theorem aei.typeIs {s:Shared}{a g z}(x:aei s.heap a g z):s.TypeIs (.ref a) "generator" := let ⟨o,_,_,ho,hc,_⟩:=x; ⟨o,ho,hc⟩
theorem aei.keeps {h h':Heap}{a g z}(x:aei h a g z) (hk:∀ o,h.get? a=some o→h'.get? a=some o):aei h' a g z:=let ⟨o,nm,qn,ho,r⟩:=x; ⟨o,nm,qn,hk _ ho,r⟩
noncomputable def anN (h:Heap) (e:Addr):Prop:=∃ o vs,h.get? e=some o∧o.cls=.type "StopIteration" ∧ o.data=.fields vs∧vs[5]? = some .none
section
variable {w:World}{A:Around}{E:Value→Shared→Prop}{s:Shared}{α:Type}
theorem agO {a:Addr}{g:Nat}{Q:Nat→Shared→Prop}(hg:aei s.heap a g false) (h:Q g s):wpAny (model pw w) A (Builtin.Generator.genNumber (.ref a)) Q E s:=by
 obtain⟨o,nm,qn,ho,_,hd,hsl⟩:=hg
 refine wpAny_bind (wpAny_load ho ?_)
 have fin:wpAny (model pw w) A (pure ((g:Int).toNat)) Q E s:=by simp only[Int.toNat_natCast]; exact wpAny_pure h
 rcases hsl with hsl | hsl
 ·rw[hsl,hd]; exact fin
 ·rw[hsl,hd]
  exact fin
theorem anj {g:Nat}{gs:GenState}{l:List Value}{k:GenResult→Sem α}{Q:α→Shared→Prop}{QR:Shared→Prop}{QY:Value→GenState→Shared→Prop}(hgs:s.gens[g]? = some gs)
  (hgo:acd w A gs QR QY (s.setGen g .running)) (hR:∀ s',QR s'→wpX (model pw w) A (k (.returned .none)) Q E (s'.setGen g .finished)) (hY:∀ v gs' s',QY v gs' s'→wpX (model pw w) A (k (.yielded v)) Q E (s'.setGen g gs')) :
  wpX (model pw w) A (.resume g (.send .none) l k) Q E s:=by
 intro R c st p K H gd lv hin h1 h2
 have hb:∀ c',(Ctx.of c' (.gen g (fun x=>(k x).wrap K H gd lv) (lv l) c p::st)).Below A:=fun c'=>ahn ((Ctx.fits_of c st).wake c' g _ (lv l) p) (hin.wake c' p).1 c'
 have a:∀ s',QR s'→aao (model pw w) R (s'.setGen g .finished) ⟨(k (.returned .none)).wrap K H gd lv,c,p,st⟩:=fun s' x=>hR s' x R c st p K H gd lv hin h1 h2
 have b:∀ v gs' s',QY v gs' s'→aao (model pw w) R (s'.setGen g gs') ⟨(k (.yielded v)).wrap K H gd lv,c,p,st⟩:=fun v gs' s' x=>hY v gs' s' x R c st p K H gd lv hin h1 h2
 cases gs with
 | fresh c'=>exact aao.go (step_resume_fresh _ _ _ _ _ _ _ hgs) (hgo.go R p g (fun x=>(k x).wrap K H gd lv) (lv l) c p st (hb c') a b)
 | suspended k0' l0 c' p' fs cl=>exact aao.go (step_resume_suspended _ _ _ _ _ _ _ _ hgs) (hgo.go R p' g (fun x=>(k x).wrap K H gd lv) (lv l) c p st (hb c') a b)
 | running=>exact hgo.elim
 | finished=>exact hgo.elim
theorem afe {id:String}{args:Args}{b:Builtin}{P:Result→Shared→Prop}(hq:plainId id=true) (hb:entryFor table id=some b)
  (h:wpX (model pw w) A.in1 (b args) (fun fin s'=>match fin with | .done f=>P (.ok f) s' | .again c'=>c'.quiet=true∧aaA (model pw w) A c' P s') (fun e s'=>P (.error e) s') s):aaA (model pw w) A (.builtin id args) P s:=by
 refine aax ?_
 show wpX _ _ (match entryFor table id with | some b=>b args | none=>unsupported ((withoutEnding? id "#data").getD id)) _ _ s
 simp only[hb,Around.under_plainId hq args]; exact h
theorem acW {id:String}{args:Args}{b:Builtin}{P:Result→Shared→Prop}(hq:plainId id=true) (hb:entryFor table id=some b)
  (h:wpAny (model pw w) A.in1 (checkBuiltinCall id args) (fun J s₁=>wpX (model pw w) A.in1 (b args)
   (fun fin s'=>match fin with | .done f=>P (.ok f) s' | .again c'=>c'.quiet=true∧aaA (model pw w) A c' P s') (fun e s'=>P (.error e) s') s₁) (fun e s'=>P (.error e) s') s):aaA (model pw w) A (.call (.builtin id) args) P s:=by
 refine aax ?_
 show wpX _ A.in1 (do checkBuiltinCall id args; again (.builtin id args)) _ _ s
 exact aad (abM (wpAny_mono h (fun J s₁ h1'=>aag (And.intro (plainId_quiet hq args) (afe hq hb h1'))) fun J J x=>x))
theorem agF {T:String}{name:Str}{id:String}{b:Builtin}{self:Value}{rest:List Value}{Q:Value→Shared→Prop}(h:Slot T name id) (hT:s.TypeIs self T) (hb:entryFor table id=some b)
  (hc:wpX (model pw w) A.in1 (b ⟨self::rest,[]⟩) (fun fin s'=>∃ v,fin=.done (.ret v)∧Q v s') E s) (ha:argsOk id ⟨self::rest,[]⟩):wpX (model pw w) A (PySem.call (.builtin id) (self::rest)) Q E s:=by
 refine acm (acW h.plain hb (h.check _ _ _ _ _ _ _ _ hT ha (aa4 hc (fun fin s' h'=>?_) fun J J h'=>h')))
 obtain⟨v,rfl,hv⟩:=h'; exact hv
theorem akQ {self:Value}{T:String}{name:Str}{id:String}{args:List Value}{Q:Option Value→Shared→Prop}(hT:s.TypeIs self T) (h:Slot T name id)
  (hc:wpX (model pw w) A (PySem.call (.builtin id) (self::args) []) (fun v=>Q (some v)) E s):wpX (model pw w) A (callSpecial? self name args []) Q E s:=by
 simp only[callSpecial?]
 refine aby (wpAny_specialOf hT h.lookup ?_)
 simp only[h.bind]
 exact ab3 (aad (aag (aad (aa4 hc (fun v s' h'=>aag h') fun J J h'=>h'))))
theorem anm {a:Addr}{g:Nat}{gs:GenState}{Q:Option Value→Shared→Prop}{QR:Shared→Prop}{QY:Value→GenState→Shared→Prop}(hh:A.handled=none) (hl:s.heap.NoLimit) (hroom:A.depth<recursionLimit)
  (hg:aei s.heap a g false) (hgs:s.gens[g]? = some gs) (hgo:acd w A.in1 gs QR QY (s.setGen g .running)) (hY:∀ v gs' s',QY v gs' s'→Q (some v) (s'.setGen g gs'))
  (hR:∀ s',QR s'→∀ h' e,(∀ b o,s'.heap.get? b=some o→h'.get? b=some o)→anN h' e→E (.ref e) { s'.setGen g .finished with heap:=h' }) :
  wpX (model pw w) A (callSpecial? (.ref a) "__next__") Q E s:=by
 refine akQ (name:=Str.ofString "__next__") hg.typeIs slot_gen_next (agF slot_gen_next hg.typeIs entry_gen_next ?_ (args_gen_next _))
 show wpX _ _ (Builtin.Generator.genWake (.ref a) (.send .none)) _ _ s
 refine aad (ab3 (abM (agO hg ?_)))
 refine aby (wpAny_genState hgs ?_)
 have go:acd w A.in1 gs QR QY (s.setGen g .running):=hgo
 have Y:∀ v gs' s',QY v gs' s'→Q (some v) (s'.setGen g gs'):=hY
 cases gs with
 | running=>exact hgo.elim
 | finished=>exact hgo.elim
 | _=>
  refine aby (wpAny_roomToWake hl hroom ?_)
  refine aad (anj (k:=Sem.pure) hgs go (fun s' hq=>aag ?_) fun v gs' s' hq=>aag ?_)
  ·show wpX _ _ (newExc (.type "StopIteration") [] >>= _) _ _ _
   refine abM ?_
   refine wpAny_bind ?_
   refine wpAny_bind (wpAny_newObj_type ?_ (by size_fits))
   refine wpAny_bind (m:=firstArgMember _ _) (wpAny_of_eq (a:=Value.none) (by first | rfl | (simp only[firstArgMember]; rfl)) ?_)
   refine wpAny_newObj_type ?_ (by size_fits)
   refine wpAny_bind (wpAny_bind (wpAny_handled ?_))
   rw[show A.in1.handled=none from hh]
   refine wpAny_throw ?_
   exact hR s' hq _ _ (fun b o hb=>Heap.get?_push_of_some _ (Heap.get?_push_of_some _ hb)) ⟨_,_,Heap.get?_push_size _ rfl,rfl,rfl,rfl⟩
  ·exact aag ⟨_,rfl,Y v gs' s' hq⟩
theorem amI {a:Addr}{g:Nat}{gs:GenState}{Q:Option Value→Shared→Prop}{QR:Shared→Prop}{QY:Value→GenState→Shared→Prop}(hh:A.handled=none) (hl:s.heap.NoLimit) (hroom:A.depth<recursionLimit)
  (hg:aei s.heap a g false) (hgs:s.gens[g]? = some gs) (hgo:acd w A.in1 gs QR QY (s.setGen g .running)) (hY:∀ v gs' s',QY v gs' s'→Q (some v) (s'.setGen g gs'))
  (hR:∀ s',QR s'→∀ h',(∀ b o,s'.heap.get? b=some o→h'.get? b=some o)→Q none { s'.setGen g .finished with heap:=h' }) :
  WP w A (pyNext (.ref a)) Q s:=by
 refine⟨?_⟩
 refine aad (ac3 (anm hh hl hroom hg hgs hgo (fun v gs' s' hq=>aag (hY v gs' s' hq)) fun s' hq h' e hk he=>?_))
 obtain⟨o,vs,ho,hc,_⟩:=he
 refine aby (wpAny_isInstance (T := "StopIteration") (b:=true) ⟨_,ho,hc⟩ isSubtype_stop ?_)
 exact aag (hR s' hq h' hk)
end
noncomputable abbrev sK (env:Env) (rest:List Stmt) (K:Flow→Sem PySem.Fin) (H:Value→Sem PySem.Fin) (gd:Bool→Bool) (lv:List Value→List Value):Flow→Sem PySem.Fin:=fun f=>match f with | .next=>(execs rest env).wrap K H gd lv | f=>K f
section
variable {w:World}{A:Around}{c:Code}{fs:List Frame}{QR:Shared→Prop}{QY:Value→GenState→Shared→Prop}{s:Shared}{env:Env}{α β:Type}{K:Flow→Sem PySem.Fin}{H:Value→Sem PySem.Fin}{gd:Bool→Bool}{lv:List Value→List Value}
theorem af5 {m:Sem α}{f:α→Sem PySem.Fin}(h:WP w (A.over c fs) m (fun a s'=>GP w A c fs (f a) QR QY s') s):GP w A c fs (m >>= f) QR QY s:=by
 rw[Sem.bind_eq_wrap']; exact ag0 h
theorem abK (h:GP w A c fs (K .next) QR QY s):GP w A c fs ((execs [] env).wrap K H gd lv) QR QY s:=h
theorem abe {st:Stmt}{rest:List Stmt}(h:GP w A c fs ((exec st env).wrap (sK env rest K H gd lv) H gd lv) QR QY s):GP w A c fs ((execs (st::rest) env).wrap K H gd lv) QR QY s:=by
 rw[execs_cons_wrap]; exact h
theorem gIf {test body orelse pos}(h:WP w (A.over c fs) (isTrue test env (eval test env)) (fun b s₂=>if b then GP w A c fs ((execs body env).wrap K H gd lv) QR QY s₂ else GP w A c fs ((execs orelse env).wrap K H gd lv) QR QY s₂) s) :
  GP w A c fs ((exec (.If test body orelse pos) env).wrap K H gd lv) QR QY s:=by
 simp only[exec_If]
 exists aaU (.stand (aaU (h.mono fun b s₂ x=>?_)))
 cases b<;>exact x
theorem atd {c':Code}(h:∀ p k' l,(∀ f,k' (.ok f)=K f)→GP w A c' (.ret k' none (gd false) l c p []::fs) ((model pw w).den c') QR QY s):GP w A c fs ((runOwn c' env).wrap K H gd lv) QR QY s:=by
 unfold runOwn
 exact apZ fun p=>h p _ _ fun f=>rfl
theorem aq3 {target iter body pos}(h:WP w (A.over c fs) (eval iter env) (fun x s₁=>WP w (A.over c fs) (pyIter x) (fun it s₂=>∀ p k' l,(∀ f,k' (.ok f)=K f)→
   GP w A (.forLoop target it body [] env) (.ret k' none (gd false) l c p []::fs) ((model pw w).den (.forLoop target it body [] env)) QR QY s₂) s₁) s)
  (hs:∀ x,foldedSetIterable iter env x=pure x:=by intro _; rfl):GP w A c fs ((exec (.For target iter body [] pos) env).wrap K H gd lv) QR QY s:=by
 simp only[exec_For]
 exact aaU (.stand (aaU (h.mono fun x s₁ h1'=>aaU (.eq (hs x) (aaU (.stand (aaU (.hold (h1'.mono fun it s₂ h2''=>atd h2'')))))))))
theorem gCW {st:Stmt}{rest:List Stmt}(h:WP w (A.over c fs) (exec st env) (qG w A c fs (sK env rest K H gd lv) QR QY) s):GP w A c fs ((execs (st::rest) env).wrap K H gd lv) QR QY s:=abe (ag0 h)
theorem gCI {test body orelse pos}{rest:List Stmt}(h:WP w (A.over c fs) (isTrue test env (eval test env)) (fun b s₂=>if b then GP w A c fs ((execs body env).wrap (sK env rest K H gd lv) H gd lv) QR QY s₂ else GP w A c fs ((execs orelse env).wrap (sK env rest K H gd lv) H gd lv) QR QY s₂) s) :
  GP w A c fs ((execs (.If test body orelse pos::rest) env).wrap K H gd lv) QR QY s:=abe (gIf h)
noncomputable def KL (c:Code) (f:Flow):Sem PySem.Fin:=match f with
 | .next | .cont=>.pure (.again c)
 | .brk=>.pure (.done .next)
 | .ret v=>.pure (.done (.ret v))
noncomputable def HL (env:Env) (e:Value):Sem PySem.Fin:=(do noteFrame e env; theTreesLotGoes e:Sem Unit).wrap (fun J=>.raise e) .raise id id
noncomputable abbrev qGt (w:World) (A:Around) (fs:List Frame) (env:Env) (target:Expr) (body:List Stmt) (it:Value) (QR:Shared→Prop) (QY:Value→GenState→Shared→Prop):Option Value→Shared→Prop:=fun r s₁=>match r with
 | none=>GP w A (.block [] env) fs (leafOf (.ok .next)) QR QY s₁
 | some v=>WP w (A.over (.forLoop target it body [] env) fs) (letOwnedTupleGo target it v) (fun J s₂=>WP w (A.over (.forLoop target it body [] env) fs) (assign target env v) (fun J s3=>
   GP w A (.forLoop target it body [] env) fs ((execs body env).wrap (KL (.forLoop target it body [] env)) (HL env) id id) QR QY s3) s₂) s₁
theorem aen {target it body}(h:WP w (A.over (.forLoop target it body [] env) fs) (pyNext it) (qGt w A fs env target body it QR QY) s) :
  GP w A (.forLoop target it body [] env) fs ((model pw w).den (.forLoop target it body [] env)) QR QY s:=by
 show GP w A _ fs ((forTurn target it body [] env).onRaise (fun x=>do noteFrame x env; theTreesLotGoes x)) QR QY s
 rw[Sem.onRaise_eq_wrap]
 exists aaU (.stand (aaU ⟨aaF (aa4 h.go (fun r s₁ x=>?_) fun J J x=>x)⟩))
 cases r with
 | none=>exact abA rfl x
 | some v=>
  exists aaU (x.mono fun J s₂ x=>aaU (x.mono fun J s3 x=>?_))
  rw[Sem.bind_eq_wrap',Sem.wrap_wrap]
  rw[Sem.wrap_congr (execs body env) _ _ (K':=KL (.forLoop target it body [] env)) (H':=HL env) (fun f=>by cases f<;>rfl)
   (fun e=>by show (do noteFrame e env; theTreesLotGoes e:Sem Unit).bind (fun J=>.raise e)=_; rw[Sem.bind_eq_wrap]; rfl)]
  exact x
theorem amo {test body pos}(h:∀ p k' l,(∀ f,k' (.ok f)=K f)→GP w A (.whileLoop test body [] env) (.ret k' none (gd false) l c p []::fs) ((model pw w).den (.whileLoop test body [] env)) QR QY s) :
  GP w A c fs ((exec (.While test body [] pos) env).wrap K H gd lv) QR QY s:=by
 simp only[exec_While]
 exact aaU (.stand (atd h))
theorem ahm {test body}(h:WP w (A.over (.whileLoop test body [] env) fs) (isTrue test env (eval test env)) (fun b s₂=>if b then GP w A (.whileLoop test body [] env) fs ((execs body env).wrap (KL (.whileLoop test body [] env)) (HL env) id id) QR QY s₂
   else GP w A (.whileLoop test body [] env) fs (leafOf (.ok .next)) QR QY s₂) s):GP w A (.whileLoop test body [] env) fs ((model pw w).den (.whileLoop test body [] env)) QR QY s:=by
 show GP w A _ fs ((whileTurn test body [] env).onRaise (fun x=>do noteFrame x env; theTreesLotGoes x)) QR QY s
 rw[Sem.onRaise_eq_wrap]
 unfold whileTurn
 exists aaU (h.mono fun b s₂ x=>?_)
 cases b with
 | false=>exact x
 | true=>
  show GP w A _ fs (Sem.wrap _ _ _ _ (if true=true then _ else _)) QR QY s₂
  rw[if_pos rfl,Sem.bind_eq_wrap',Sem.wrap_wrap]
  rw[Sem.wrap_congr (execs body env) _ _ (K':=KL (.whileLoop test body [] env)) (H':=HL env) (fun f=>by cases f<;>rfl)
   (fun e=>by show (do noteFrame e env; theTreesLotGoes e:Sem Unit).bind (fun J=>.raise e)=_; rw[Sem.bind_eq_wrap]; rfl)]
  exact x
noncomputable def KF (f:Flow):Sem PySem.Fin:=leafOf (.ok (.ret (aiv f)))
noncomputable def HF (env:Env) (e:Value):Sem PySem.Fin:=(leaving env e).wrap (fun J=>.raise e) .raise id id
theorem afj {body:List Stmt}(h:GP w A (.func body env) [] ((execs body env).wrap KF (HF env) id id) QR QY s) :
  GP w A (.func body env) [] ((model pw w).den (.func body env)) QR QY s:=by
 exists af5 (.point ?_)
 rw[Sem.onRaise_eq_wrap,Sem.bind_eq_wrap',Sem.wrap_wrap]
 rw[Sem.wrap_congr (execs body env) _ _ (K':=KF) (H':=HF env) (fun f=>by cases f<;>rfl)
  (fun e=>by rw[Sem.bind_eq_wrap,Sem.wrap_wrap]; rfl)]
 exact h
noncomputable abbrev qY (w:World) (c:Code) (fs:List Frame) (K:Flow→Sem PySem.Fin) (QY:Value→GenState→Shared→Prop):Value→Shared→Prop:=fun v s'=>∀ gs',(∀ A' QR' QY' s'',GP w A' c fs (K .next) QR' QY' s''→acd w A' gs' QR' QY' s'')→QY v gs' s'
theorem abn {e:Expr}{ypos pos:Pos}(hfs:splitAtGen fs=none) (hgd:gd false=false) (hfg:fs.any Frame.guarded=false) (hco:env.scope.isCoroutine=false) (hi:interactive env=false)
  (h:WP w (A.over c fs) (eval e env) (qY w c fs K QY) s) :
  GP w A c fs ((exec (.Expr (.Yield (some e) ypos) pos) env).wrap K H gd lv) QR QY s:=by
 rw[exec_Expr env _ pos hi rfl]
 have hy:∀ v,yieldOut env v=yieldValue v:=fun v=>by simp only[yieldOut,hco,Bool.false_eq_true,if_false]
 exists aaU (.stand ?_)
 show GP w A c fs (((eval e env >>= fun v=>(standAt ypos >>= fun J=>yieldOut env v)) >>= fun x=>dropValue (.Yield (some e) ypos) pos x).wrap K H gd lv) QR QY s
 simp only[hy]
 rw[Sem.bind_eq_wrap',Sem.bind_eq_wrap',Sem.wrap_wrap,Sem.wrap_wrap]
 exists ag0 (h.mono fun v s' h'=>?_)
 exists aaU (.stand ?_)
 exists ajO hfs hfg (.inl hgd) fun p=>h' _ fun A' QR' QY' s'' hx=>?_
 exact hx
end
noncomputable abbrev cY (a:Addr):Code:=.builtin "proto.yield_from" ⟨[.ref a,.bool false,.none],[]⟩
theorem am8:entryFor table "proto.yield_from" = some Builtin.«proto.yield_from»:=entryFor_of_fast (by kernel_rfl)
section
variable {w:World}{A:Around}{c:Code}{fs:List Frame}{QR:Shared→Prop}{QY:Value→GenState→Shared→Prop}{s:Shared}{env:Env}{α β:Type}{K:Flow→Sem PySem.Fin}{H:Value→Sem PySem.Fin}{gd:Bool→Bool}{lv:List Value→List Value}
theorem adt {a:Addr}{g:Nat}{z:Bool}{Q:Value→Shared→Prop}(hg:aei s.heap a g z) (h:Q (.ref a) s):WP w A (pyIter (.ref a)) Q s:=
 .of (wpAny_pyIter_slot hg.typeIs slot_gen_iter (wpAny_call_entry slot_gen_iter hg.typeIs entry_gen_iter
  (show wpAny _ _ (ret (.ref a)) _ _ s from wpAny_pure ⟨_,rfl, "generator",_,hg.typeIs,slot_gen_next.lookup,h⟩) (args_gen_iter _)))
theorem ans {a:Addr} {g:Nat} {Q:Unit→Shared→Prop} (hg:aei s.heap a g false) (h:∀ h',Heap.SameBut a s.heap h'→aei h' a g true→Q () { s with heap:=h' }):WP w A (Builtin.Generator.sleptOver (.ref a) true) Q s:=by
 obtain⟨o,nm,qn,ho,hc,hd,hsl⟩:=hg
 refine .of ?_
 unfold Builtin.Generator.sleptOver
 refine wpAny_bind (wpAny_load ho ?_)
 rw[hc]
 simp only[bne_self_eq_false,Bool.false_eq_true,if_false]
 unfold setSlotAt
 refine wpAny_updatePart ho (h _ (Heap.SameBut.update ..) ?_)
 refine⟨_,nm,qn,Heap.get?_update_self _ ho ?_,hc,hd,?_⟩
 ·exact Obj.isFreed_of_fields hd
 ·rcases hsl with hsl | hsl<;>simp[hsl]<;>rfl
theorem ajj {a:Addr} {g:Nat} {Q:Unit→Shared→Prop} (hg:aei s.heap a g true) (h:∀ h',Heap.SameBut a s.heap h'→aei h' a g false→Q () { s with heap:=h' }):WP w A (Builtin.Generator.sleptOver (.ref a) false) Q s:=by
 obtain⟨o,nm,qn,ho,hc,hd,hsl⟩:=hg
 refine .of ?_
 unfold Builtin.Generator.sleptOver
 refine wpAny_bind (wpAny_load ho ?_)
 rw[hc]
 simp only[bne_self_eq_false,Bool.false_eq_true,if_false]
 unfold setSlotAt
 refine wpAny_updatePart ho (h _ (Heap.SameBut.update ..) ?_)
 refine⟨_,nm,qn,Heap.get?_update_self _ ho ?_,hc,hd,.inr ?_⟩
 ·exact Obj.isFreed_of_fields hd
 ·dsimp only at hsl; simp[hsl]; rfl
theorem adh {value:Expr}{ypos pos:Pos}(hi:interactive env=false)
  (h:WP w (A.over c fs) (eval value env) (fun v s₁=>∃ a g,v=.ref a∧aei s₁.heap a g false∧∀ p k' l,k' (.ok (.ret .none))=K .next→GP w A (cY a) (.ret k' none (gd false) l c p []::fs) ((model pw w).den (cY a)) QR QY s₁) s) :
  GP w A c fs ((exec (.Expr (.YieldFrom value ypos) pos) env).wrap K H gd lv) QR QY s:=by
 rw[exec_Expr env _ pos hi rfl,arm_eval_YieldFrom]
 simp only[bind_assoc]
 exists aaU (.stand (aaU (h.mono fun v s₁ x=>aaU (.stand ?_))))
 obtain⟨a,g,rfl,hg,x⟩:=x
 unfold yieldFrom
 simp only[bind_assoc]
 exists aaU (.of (wpAny_typeOf hg.typeIs ?_))
 rw[show (Value.type "generator" == Value.type "coroutine")=false from by decide]
 simp only[Bool.false_eq_true,if_false,bind_assoc]
 exists aaU (.hold (adt hg ?_))
 exact apZ fun p=>x p _ _ rfl
theorem amf {id:String}{args:Args}{b:Builtin}(hb:entryFor table id=some b) (h:GP w A (.builtin id args) fs (b args) QR QY s):GP w A (.builtin id args) fs ((model pw w).den (.builtin id args)) QR QY s:=by
 show GP w A _ fs (match entryFor table id with | some b=>b args | none=>unsupported ((withoutEnding? id "#data").getD id)) QR QY s
 rw[hb]; exact h
theorem ak9 {E:Value→Shared→Prop}{x:Addr}{Q:Bool→Shared→Prop}(h:anN s.heap x) (hQ:Q true s):wpAny (model pw w) A (Builtin.Generator.endsTheTurnAsAValue false (.ref x)) Q E s:=by
 obtain⟨o,vs,ho,hc,hd,h5⟩:=h
 refine wpAny_bind (wpAny_bind (wpAny_typeOf (T := "StopIteration") ⟨o,ho,hc⟩ ?_))
 refine wpAny_bind (wpAny_of_eq isSubtype_stop (wpAny_bind (wpAny_typeOf (v:=.type "StopIteration") (T := "type") rfl (wpAny_pure ?_))))
 exact wpAny_pure hQ
theorem gYF {a:Addr}(hfs:splitAtGen fs=none) (hfg:fs.any Frame.guarded=false)
  (h:wpX (model pw w) (A.over (cY a) fs) (callSpecial? (.ref a) "__next__") (fun r s₁=>∃ v g,r=some v∧aei s₁.heap a g false ∧
    ∀ h',Heap.SameBut a s₁.heap h'→aei h' a g true→∀ gs',(∀ A' QR' QY' s3,aei s3.heap a g true→(∀ h'',Heap.SameBut a s3.heap h''→aei h'' a g false→GP w A' (cY a) fs ((model pw w).den (cY a)) QR' QY' { s3 with heap:=h'' })→acd w A' gs' QR' QY' s3)→
     QY v gs' { s₁ with heap:=h' })
   (fun e s₁=>∃ x,e=.ref x∧anN s₁.heap x∧GP w A (cY a) fs (leafOf (.ok (.ret .none))) QR QY s₁) s) :
  GP w A (cY a) fs ((model pw w).den (cY a)) QR QY s:=by
 exists amf am8 ?_
 unfold Builtin.«proto.yield_from»
 dsimp only
 simp only[pure_bind,Bool.false_eq_true,if_false]
 exists af5 ⟨ac3 (ab3 ?_)⟩
 refine aby (wpAny_rule (aad (aa4 h (fun r s₁ x=>?_) fun e s₁ x=>?_)))
 ·obtain⟨v,g,rfl,hg,x⟩:=x
  refine aag ?_
  exists af5 (.of (wpAny_typeOf hg.typeIs ?_))
  exists af5 (.pure (af5 (ans hg fun h' hs hg'=>?_)))
  exists ajO hfs hfg (.inr ⟨_,_,_,rfl,?_⟩) fun p=>x h' hs hg' _ fun A' QR' QY' s3 hg3 hx=>?_
  ·obtain⟨o,nm,qn,ho,hc,hd,_⟩:=hg'
   rw[show ({ s₁ with heap:=h' }:Shared).heap.get? a=some o from ho]
   obtain⟨cls,dd,data,sl⟩:=o
   cases hc
   cases hd
   kernel_rfl
  ·show GP w A' (cY a) fs (Builtin.Generator.sleptOver (.ref a) false >>= fun J=>_) QR' QY' s3
   exists af5 (ajj hg3 fun h'' hs'' hg''=>?_)
   exact abA (Code.quiet_builtin _ (by decide +kernel)) (hx h'' hs'' hg'')
 ·obtain⟨x,rfl,⟨o,vs,ho,hc,hd,h5⟩,hl⟩:=x
  exists af5 (.of (ak9 ⟨o,vs,ho,hc,hd,h5⟩ ?_))
  exists af5 (.rule (af5 (.of (wpAny_field ho hd h5 ?_))))
  exact hl
end
noncomputable def aak (a:Addr) (g:Nat) (z:Bool) (gs:GenState):Res where
 fp:=(· = a)
 gp:=(· = g)
 P:=fun s=>aei s.heap a g z∧s.gens[g]? = some gs
 live:=fun s ⟨⟨o,_,_,ho,_⟩,hg⟩=>⟨fun b e=>by subst e; rw[ho]; rfl,fun g' e=>by subst e; exact (Array.getElem?_eq_some_iff.mp hg).1⟩
 loc:=fun s s' ⟨x,hg⟩ h1 h2 J=>⟨x.keeps fun o ho=>h1 a o rfl ho,(h2 g rfl).trans hg⟩
theorem agP (s:Shared) (g:Nat) (x:GenState):(s.setGen g x).heap=s.heap:=rfl
theorem acg {s:Shared}{g g':Nat}{x:GenState}(h:g'≠g):(s.setGen g x).gens[g']? = s.gens[g']?:=by
 unfold Shared.setGen
 simp only[Array.getElem?_setIfInBounds]
 rw[if_neg (Ne.symm h)]
theorem aec {s:Shared}{g:Nat}{x y:GenState}(h:s.gens[g]? = some y):(s.setGen g x).gens[g]? = some x:=by
 unfold Shared.setGen
 simp only[Array.getElem?_setIfInBounds]
 rw[if_pos trivial,if_pos (Array.getElem?_eq_some_iff.mp h).1]
theorem abr {s:Shared}{g:Nat}{x:GenState}:(s.setGen g x).gens.size=s.gens.size:=by simp[Shared.setGen]
structure abi (α σ:Type) where
 out:α→σ→Value→Res→σ→Prop
 Sh:σ→Res
 view:α→Value→Res→Res→Prop:=fun J J J J=>True
 endR:Res→Prop:=fun J=>True
 fin:σ→σ→Prop:=fun x x'=>x'=x
noncomputable def freeK (R:Res):Prop:=∀ a,R.fp a→¬ kfp a
noncomputable def aaq {α σ:Type}(w:World) (d u:Nat) (S:abi α σ):List α→GenState→Res→Prop
 | [],gs,R=>freeK R∧∀ A,aah A d u→∀ x s,Bs w s.heap→aaf s [R,S.Sh x]→freeK (S.Sh x)→
   acd w A gs (fun s'=>∃ R' x',abq [R']∧S.endR R'∧S.fin x x'∧Chg (aae [R,S.Sh x]) (aae [R',S.Sh x']) s s') (fun J J J=>False) s
 | o::os,gs,R=>freeK R∧∀ A,aah A d u→∀ x s,Bs w s.heap→aaf s [R,S.Sh x]→freeK (S.Sh x)→
   acd w A gs (fun J=>False) (fun v gs' s'=>∃ R' RY y,S.out o x v RY y∧S.view o v R' RY∧aaq w d u S os gs' R'∧Chg (aae [R,S.Sh x]) (aae [R',RY,S.Sh y]) s s') s
theorem adI {a g gs gs' z z'}{L L':List Res}{s s':Shared}(hs:aaf s (aak a g z gs::L)) (k:Chg (aae L) (aae L') (s.setGen g .running) s') (hg:∀ (h:Heap),aei h a g z→aei h a g z':=by exact fun J x=>x) :
  Chg (aae (aak a g z gs::L)) (aae (aak a g z' gs'::L')) s (s'.setGen g gs'):=by
 obtain⟨⟨hgn,hgs⟩,hap,hL⟩:=hs
 have nfp:¬ (aae L).fp a:=fun ⟨R,m,x⟩=>(hap R m).1 a rfl x
 have ngp:¬ (aae L).gp g:=fun ⟨R,m,x⟩=>(hap R m).2 g rfl x
 have hlt:g<s.gens.size:=(Array.getElem?_eq_some_iff.mp hgs).1
 have hrun:s'.gens[g]? = some .running:=(k.kept.gens g (by rw[abr]; exact hlt) ngp).trans (aec hgs)
 have nfp':¬ (aae L').fp a:=fun x=>by
  rcases k.fp a x with y | y
  ·exact nfp y
  ·obtain⟨o,_,_,ho,_⟩:=hgn
   simp only[agP,ho] at y; cases y
 have ngp':¬ (aae L').gp g:=fun x=>by
  rcases k.gp g x with y | y
  ·exact ngp y
  ·rw[abr] at y; lia
 refine⟨⟨fun b o hb e=>k.kept.heap b o (fun ⟨R,m,x⟩=>hb ⟨R,.tail _ m,x⟩) e,fun g' hg' hn=>?_,k.kept.os⟩,fun g' x e hc hn=>?_,⟨⟨hg _ (hgn.keeps fun o ho=>k.kept.heap a o nfp ho),aec hrun⟩,fun R m=>⟨fun b e x=>?_,fun g' e x=>?_⟩,?_⟩,fun b ⟨R,m,x⟩=>?_,fun g' ⟨R,m,x⟩=>?_⟩
 ·have hne:g'≠g:=fun e=>hn ⟨_,.head _,e⟩
  simp only[acg hne,k.kept.gens g' (by rw[abr]; exact hg') (fun ⟨R,m,x⟩=>hn ⟨R,.tail _ m,x⟩),acg hne]
 ·have hne:g'≠g:=fun e=>hn ⟨_,.head _,e⟩
  rw[acg hne] at e
  refine k.new g' x e ?_ fun ⟨R,m,y⟩=>hn ⟨R,.tail _ m,y⟩
  rcases hc with hc | ⟨R,m,y⟩
  ·exact .inl (by rw[abr]; exact hc)
  ·rcases List.mem_cons.mp m with rfl | m
   ·exact absurd y hne
   ·exact .inr ⟨R,m,y⟩
 ·cases e; exact nfp' ⟨R,m,x⟩
 ·cases e; exact ngp' ⟨R,m,x⟩
 ·exact aaf.loc k.p (fun R m b o J e=>e) (fun R m g' x=>acg fun e=>ngp' ⟨R,m,e▸x⟩) rfl
 ·rcases List.mem_cons.mp m with rfl | m
  ·exact .inl ⟨_,.head _,x⟩
  ·rcases k.fp b ⟨R,m,x⟩ with⟨R',m',y⟩ | y
   ·exact .inl ⟨R',.tail _ m',y⟩
   ·exact .inr y
 ·rcases List.mem_cons.mp m with rfl | m
  ·exact .inl ⟨_,.head _,x⟩
  ·rcases k.gp g' ⟨R,m,x⟩ with⟨R',m',y⟩ | y
   ·exact .inl ⟨R',.tail _ m',y⟩
   ·exact .inr (by rw[abr] at y; exact y)
theorem acH {a g z gs}{L:List Res}{s:Shared}{x:GenState}(hs:aaf s (aak a g z gs::L)):aaf (s.setGen g x) L:=
 hs.2.2.loc (fun J J J J J e=>e) (fun R m g' y=>acg fun e=>(hs.2.1 R m).2 g rfl (e▸y)) rfl
section
variable {α σ:Type}{w:World}{A:Around}{s:Shared}{S:abi α σ}{d u:Nat}
theorem akk {a g gs R x o os}{Q:Option Value→Shared→Prop}(r:aah A (d+1) (u+1)) (b:Bs w s.heap) (G:aaq w d u S (o::os) gs R) (hs:aaf s [aak a g false gs,R,S.Sh x]) (hf:freeK (S.Sh x))
  (h:∀ v gs' R' RY y s',S.out o x v RY y→S.view o v R' RY→aaq w d u S os gs' R'→Chg (aae [aak a g false gs,R,S.Sh x]) (aae [aak a g false gs',R',RY,S.Sh y]) s s'→Q (some v) s'):WP w A (pyNext (.ref a)) Q s:=by
 exists amI r.handled b.nolimit r.lt hs.1.1 hs.1.2 (G.2 A.in1 ((r.mono (Nat.le_succ d) (Nat.le_refl _)).in1) x _ b (acH hs) hf) ?_ fun s' z=>z.elim
 rintro v gs' s' ⟨R',RY,y,ho,hv,hG,k⟩
 exact h v gs' R' RY y _ ho hv hG (adI hs k)
theorem ahK {a g gs R x}{Q:Option Value→Shared→Prop}(r:aah A (d+1) (u+1)) (b:Bs w s.heap) (G:aaq w d u S [] gs R) (hs:aaf s [aak a g false gs,R,S.Sh x]) (hf:freeK (S.Sh x))
  (h:∀ R' x' s',abq [R']→S.endR R'→S.fin x x'→Chg (aae [aak a g false gs,R,S.Sh x]) (aae [aak a g false .finished,R',S.Sh x']) s s'→Q none s'):WP w A (pyNext (.ref a)) Q s:=by
 exists amI r.handled b.nolimit r.lt hs.1.1 hs.1.2 (G.2 A.in1 ((r.mono (Nat.le_succ d) (Nat.le_refl _)).in1) x _ b (acH hs) hf) (fun J J J z=>z.elim) ?_
 rintro s' ⟨R',x',hn,he,hx,k⟩ h' hk
 refine h R' x' _ hn he hx ?_
 have k2:=adI (gs':=.finished) hs k
 exact⟨⟨fun c o hc e=>hk c o (k2.kept.heap c o hc e),k2.kept.gens,k2.kept.os⟩,k2.new,(aae _).loc _ _ k2.p (fun c o J e=>hk c o e) (fun J J=>rfl) rfl,k2.fp,k2.gp⟩
end
section
variable {w:World}{s s0:Shared}{L:List Res}
theorem aaf.sep {L M:List Res}:aaf s (aae L::M)↔aaf s (L++M):=by
 constructor
 ·rintro ⟨hp,ha,hm⟩
  exact aaf.append.mpr ⟨hp,hm,fun R m R' m'=>⟨fun a x y=>(ha R' m').1 a ⟨R,m,x⟩ y,fun g x y=>(ha R' m').2 g ⟨R,m,x⟩ y⟩⟩
 ·intro h
  obtain⟨h1,h2,h3⟩:=aaf.append.mp h
  exact⟨h1,fun R' m'=>⟨fun a ⟨R,m,x⟩ y=>(h3 R m R' m').1 a x y,fun g ⟨R,m,x⟩ y=>(h3 R m R' m').2 g x y⟩,h2⟩
theorem freeK.sep {L:List Res}(h:∀ R∈L,freeK R):freeK (aae L):=fun a ⟨R,m,x⟩=>h R m a x
theorem freeK.of {L:List Res}(h:freeK (aae L)):∀ R∈L,freeK R:=fun R m a x=>h a ⟨R,m,x⟩
theorem aa0.stretch {R:Res}(b:Bs w s.heap) (hp:R.P s) (hf:freeK R):aa0 s [aa5 w R.fp R.gp s,R]:=aa0.startR b hp hf
theorem aa0.turn {R R':Res}(H:aa0 s (aa5 w R.fp R.gp s0::R'::L)) (hn:abq L:=by repeat (first | exact trivial | refine⟨fun J z=>z,?_⟩)):Chg R R' s0 s:=
 aa0.outR (R₁:=Mine.emp) (aa0.emp.mp H) ⟨fun J z=>z,hn⟩
theorem aa0.freeK {R:Res}{fp gp}(M N:List Res) (H:aa0 s (M++aa5 w fp gp s0::(N++R::L))):freeK R:=fun a x hk=>by
 have ap:=(H.apart M).1 a
 have k:=H.at M
 have live:=k.bs.live hk
 exact ap ⟨live,fun z=>k.free a z hk⟩ x
theorem aa0.freeK' {R:Res}{fp gp}(M N:List Res) (H:aa0 s (M++R::(N++aa5 w fp gp s0::L))):Mine.freeK R:=fun a x hk=>by
 have ap:=(H.apart M).1 a x
 have k:akK w fp gp s0 s:=by
  have H':aa0 s ((M++R::N)++aa5 w fp gp s0::L):=by simpa using H
  exact H'.at _
 exact ap ⟨k.bs.live hk,fun z=>k.free a z hk⟩
end
section
variable {w:World}{A:Around}{s:Shared}{L:List Res}
theorem als {fd:FuncData}{f:Addr}{ns gs:List Str}{body:List Stmt}{vals:List Value}{binds:List (Str × Value)}{vs:List (Option Value)}{Q:Value→Shared→Prop}{d u:Nat}
  (X:Fn fd f ns gs) (r:aah A (d+1) (u+3)) (b:Bs w s.heap) (hbody:fd.body=.stmts body) (hbind:BindsTo s fd ⟨vals,[]⟩ binds) (hb:∀ x∈binds,x.1∈ns) (hv:∀ y,binds.reverse.lookup y=aal ns vs y)
  (h:∀ env a g s',aa8 env ns gs→env.scope.isCoroutine=false→acr (aae [aak a g false (.fresh (.func body env)),aa1 env.locals (aal ns vs)]) s s'→Q (.ref a) s')
  (hgen:fd.scope.isGenerator=true:=by rfl):WP w A (call (.ref f) vals) Q s:=by
 obtain⟨o,hoK,hod⟩:=X.obj w.params
 have hc:=X.chk
 obtain⟨h1,h2,h3,h4,h5,h6,h7,h8,h9⟩:=anz hc
 refine .of (wpAny_call (codeAny_call_generator r.lt (b.k _ hoK) hod h2 hgen hbody (X.codeRec b) (hbind _ _ _ _ (wpAny_newFunctionEnv (fun x hx e=>by
   have:=h9 x hx
   rw[e] at this; revert this; decide) (fun x hx=>h4 x.1 (hb x hx)) (fun h0' hns hsb=>⟨b.nolimit.fresh _ hsb,?_⟩) h1))))
 have hk:∀ b o,s.heap.get? b=some o→h0'.get? b=some o:=fun b o e=>hsb.extBut b o (Nat.ne_of_lt (Heap.lt_size e)) (Heap.get?_push_of_some _ e)
 have hL:s.heap.objs.size<h0'.objs.size:=by obtain⟨o,_,_,ho,_⟩:=hns; exact Heap.lt_size ho
 refine h (callEnv fd s.heap.objs.size f) h0'.objs.size s.gens.size _ (X.env _ _) h2 ⟨⟨fun c o J e=>Heap.get?_push_of_some _ (hk c o e),fun g hg J=>?_,rfl⟩,fun g x e hc hn=>?_,⟨⟨⟨_,_,_,Heap.get?_push_size _ rfl,rfl,rfl,.inl rfl⟩,Array.getElem?_push_size ..⟩,fun R m=>?_,?_,fun J m=>(nomatch m),trivial⟩,fun c ⟨R,m,x⟩=>.inr ?_,fun g ⟨R,m,x⟩=>.inr ?_⟩
 ·exact (Array.getElem?_push_lt hg).trans (Array.getElem?_eq_getElem hg).symm
 ·rcases hc with hc | hc
  ·have hlt:=(Array.getElem?_eq_some_iff.mp e).1
   simp only[Array.size_push] at hlt
   exact absurd ⟨_,.head _,show g=s.gens.size by exact q9 ‹_› ‹_›⟩ hn
  ·exact hc.elim
 ·rcases List.mem_singleton.mp m with rfl
  refine⟨fun c e x=>?_,fun g e z=>z⟩
  cases e
  have x':h0'.objs.size=s.heap.objs.size:=x
  rw[x'] at hL
  exact absurd hL (Nat.lt_irrefl _)
 ·exact abh (hns.push _) hv
 ·rcases List.mem_cons.mp m with rfl | m
  ·have x':c=h0'.objs.size:=x
   cases hq:s.heap.get? c with
   | none=>rfl
   | some o=>
    have hlt:=Heap.lt_size hq
    rw[x'] at hlt
    exact absurd (Nat.lt_trans hlt hL) (Nat.lt_irrefl _)
  ·rcases List.mem_singleton.mp m with rfl
   exact aa9 c x
 ·rcases List.mem_cons.mp m with rfl | m
  ·exact Nat.le_of_eq (Eq.symm x)
  ·rcases List.mem_singleton.mp m with rfl
   exact x.elim
end
section
variable {w:World}{A:Around}{s:Shared}{env:Env}{L:List Res}{ns gs:List Str}
theorem abW {pos:Pos}{id:String}{first:List Value}{args:List (Bool × Sem Value)}{Q:Value→Shared→Prop}(hp:args.any (·.1)=false)
  (h:WP w A (evalArgs (.builtin id) true args []) (fun a s₁=>WP w A (call (.builtin id) (first++a.pos) a.kw) Q s₁) s):WP w A (callWith pos (.builtin id) first args []) Q s:=by
 unfold callWith
 refine .bind (.hold (h.mono fun a s₁ h1'=>.bind (.stand ?_)))
 simp only[hp,List.any_nil,Bool.or_false]
 refine .bind (.pure ?_)
 exact .bind (h1'.mono fun r s₂ hr=>.bind (.hold (.point (.pure hr))))
theorem afc {e:Expr}{rest:List Expr}{pos:Pos}(h:((starEach (e::rest) env).any (·.1))=false):(backTo pos (starEach (e::rest) env)).any (·.1)=false:=by
 simp only[← h]; simp[backTo,List.any_map,Function.comp_def]
theorem aaj {id:String}{x np pos e rest}{fp gp s0}{R:Res}{Q:Value→Shared→Prop}(j i:Nat) (F:aa8 env ns gs) (H:aa0 s (R::aa5 w fp gp s0::L))
  (h:WP w A (spliced (backTo pos (starEach (e::rest) env))) (qCl w A (.builtin id) Q) s)
  (hx:gs[j]? = some x:=by rfl) (hg:bl[i]? = some (x,.builtin id):=by rfl) (he:starEach (e::rest) env=(false,eval e env)::starEach rest env:=by rfl) (ha:(starEach (e::rest) env).any (·.1)=false:=by rfl) :
  WP w A (eval (.Call (.Name x np) (e::rest) [] pos) env) Q s:=by
 exists aeT (dB j i F H.bs (abW (afc ha) ?_) hx hg)
 rw[he] at h ⊢
 exact aaG h
theorem dLd (i:Nat) {x:Str}{v:Value}{vs:List (Option Value)}{Q:Value→Shared→Prop}(F:aa8 env ns gs) (H:aa0 s (aa1 env.locals (aal ns vs)::L)) (hv:vs[i]? = some (some v)) (h:Q v s) (hx:ns[i]? = some x:=by rfl) :
  WP w A (loadName env x) Q s:=.of (wpAny_loadName_local F.kind (F.loc i x hx) H.2.1 (af1 F.nd hx hv) h)
theorem aah.over {d u:Nat}{c:Code}{fs:List Frame}(r:aah A (d+1) (u+3)) (hm:(marksOver fs (A.handled,A.handled)).1=A.handled:=by rfl) (hw:frameCount (fs.map Frame.where_)+c.weight=1:=by rfl)
  (hu:unitsOf (fs.map Frame.where_)+c.cUnits=3:=by rfl):aah (A.over c fs) d u:=
 ⟨hm.trans r.handled,by show A.depth+frameCount (fs.map Frame.where_)+c.weight+d≤900; have:=r.depth; lia,by show A.units+unitsOf (fs.map Frame.where_)+c.cUnits+u≤9000; have:=r.units; lia⟩
noncomputable def PR {α σ:Type}(S:abi α σ) (os:List α) (R:Res) (x:σ) (s0:Shared) (s':Shared):Prop:=match os with
 | []=>∃ R' x',abq [R']∧S.endR R'∧S.fin x x'∧Chg (aae [R,S.Sh x]) (aae [R',S.Sh x']) s0 s'
 | _::_=>False
noncomputable def PY {α σ:Type}(w:World) (d u:Nat) (S:abi α σ) (os:List α) (R:Res) (x:σ) (s0:Shared) (v:Value) (gs':GenState) (s':Shared):Prop:=match os with
 | []=>False
 | o::os=>∃ R' RY y,S.out o x v RY y∧S.view o v R' RY∧aaq w d u S os gs' R'∧Chg (aae [R,S.Sh x]) (aae [R',RY,S.Sh y]) s0 s'
theorem aaq.of {α σ:Type}{d u:Nat}{S:abi α σ}{os:List α}{gs:GenState}{R:Res}(hf:freeK R)
  (h:∀ A,aah A d u→∀ x s,aa0 s [aa5 w (aae [R,S.Sh x]).fp (aae [R,S.Sh x]).gp s,R,S.Sh x]→acd w A gs (PR S os R x s) (PY w d u S os R x s) s):aaq w d u S os gs R:=by
 have st:∀ x s,Bs w s.heap→aaf s [R,S.Sh x]→freeK (S.Sh x)→aa0 s [aa5 w (aae [R,S.Sh x]).fp (aae [R,S.Sh x]).gp s,R,S.Sh x]:=fun x s b hl hfx=>by
  have H:=aa0.stretch (R:=aae [R,S.Sh x]) b hl (freeK.sep fun R' m=>by
   rcases List.mem_cons.mp m with rfl | m
   ·exact hf
   ·rcases List.mem_singleton.mp m with rfl; exact hfx)
  exact (aa0.sep.mp (H.front [_] (R:=aae [R,S.Sh x]) (M:=[]))).back [_,_]|>fun J=>by
   have H3:aa0 s ([R,S.Sh x]++aa5 w (aae [R,S.Sh x]).fp (aae [R,S.Sh x]).gp s::[]):=aa0.sep.mp (H.front [_] (R:=aae [R,S.Sh x]) (M:=[]))
   exact H3.front [R,S.Sh x]
 cases os with
 | nil=>exact⟨hf,fun A r x s b hl hfx=>h A r x s (st x s b hl hfx)⟩
 | cons o os=>exact⟨hf,fun A r x s b hl hfx=>h A r x s (st x s b hl hfx)⟩
theorem aa0.fold {s:Shared}{R:Res}{M:List Res}(L:List Res) (H:aa0 s (R::(L++M))):aa0 s (R::aae L::M):=
 (aa0.sep.mpr (H.back L)).front [aae L]
theorem Chg.freeK {R:Res}{s':Shared}(m:acr R s s') (B:Bs w s.heap):Mine.freeK R:=fun a x hk=>by
 rcases m.fp a x with z | z
 ·exact z.elim
 ·have:=B.live hk
  rw[z] at this; cases this
theorem agc {fd:FuncData}{f:Addr}{ns gs:List Str}{body:List Stmt}{vals:List Value}{vs:List (Option Value)}{Q:Value→Shared→Prop}{d u:Nat}
  (X:Fn fd f ns gs) (r:aah A (d+1) (u+3)) (b:Bs w s.heap) (hbody:fd.body=.stmts body) (hbind:BindsTo s fd ⟨vals,[]⟩ ((ns.take vals.length).zip vals)) (hl:vals.length≤ns.length) (hv:vs=vals.map some++List.replicate (ns.length - vals.length) none)
  (h:∀ env a g s',aa8 env ns gs→env.scope.isCoroutine=false→acr (aae [aak a g false (.fresh (.func body env)),aa1 env.locals (aal ns vs)]) s s'→Mine.freeK (aa1 env.locals (aal ns vs))→Q (.ref a) s')
  (hgen:fd.scope.isGenerator=true:=by rfl):WP w A (call (.ref f) vals) Q s:=by
 exists als X r b hbody hbind (fun x hx=>List.mem_of_mem_take (List.of_mem_zip hx).1) (fun y=>?_) (fun env a g s' F hco m=>h env a g s' F hco m ((m.freeK b).of _ (.tail _ (.head _)))) hgen
 have e:ns=ns.take vals.length++ns.drop vals.length:=(List.take_append_drop _ _).symm
 have h3:ns.Nodup:=(X.env 0 0).nd
 rw[aay (ns.take vals.length) vals (ns.drop vals.length) (List.replicate (ns.length - vals.length) none) y (by rw[← e]; exact h3) (by rw[List.length_take]; lia) (fun z hz=>(List.mem_replicate.mp hz).2),← e,hv]
end
noncomputable def aai (c:Addr) (v:Option Value):Res where
 fp:=(· = c)
 gp:=aaD
 P:=fun s=>s.heap.IsCell c v
 live:=fun s ⟨o,ho,_⟩=>⟨fun b e=>by subst e; rw[ho]; rfl,fun J z=>z.elim⟩
 loc:=fun s s' ⟨o,ho,hd⟩ h J J=>⟨o,h c o rfl ho,hd⟩
noncomputable def aeN:Nat→List (Option Value)→List Res
 | _,[]=>[]
 | a,v::r=>aai a v::aeN (a+1) r
theorem acL:∀ {vs:List (Option Value)}{a:Nat}{R:Res},R∈aeN a vs→∃ (i:Nat) (v:Option Value),vs[i]? = some v∧R=aai (a+i:Nat) v:=by
 intro xX
 induction xX with
 | nil=>exact @fun a R m=>nomatch m
 | cons v r ih=>
  refine @fun a R m=>?_
  rcases List.mem_cons.mp m with rfl | m
  ·exact⟨0,v,rfl,rfl⟩
  ·obtain⟨i,u,h1,h2⟩:=ih m
   exact⟨i+1,u,h1,by simp only[h2,Nat.add_assoc,Nat.add_comm 1 i]⟩
theorem ah9 {s:Shared}:∀ {vs:List (Option Value)}{a:Nat},(∀ (i:Nat) v,vs[i]? = some v→s.heap.IsCell (a+i:Nat) v)→aaf s (aeN a vs):=by
 intro xX
 induction xX with
 | nil=>exact @fun J J=>trivial
 | cons v r ih=>exact @fun a h=>⟨h 0 v rfl,fun R m=>by
   obtain⟨i,u,h1,rfl⟩:=acL m
   refine⟨fun b e e'=>?_,fun J z J=>z⟩
   have e1:(b:Nat)=a:=e
   have e2:(b:Nat)=a+1+i:=e'
   rw[e1] at e2
   exact absurd (show a=a+1+i from e2) (by exact q69),ih fun i u hu=>by
   have:=h (i+1) u hu
   rwa [show a+(i+1)=a+1+i from by exact q25] at this⟩
structure aap (env:Env) (k:NameKind) (cs:List Str) (as:List Addr):Prop where
 kind:∀ (i:Nat) (x:Str),cs[i]? = some x→env.kindOf x=some k
 at':∀ (i:Nat) (x:Str) (c:Addr),cs[i]? = some x→as[i]? = some c→env.cells.lookup x=some c
 dbg:∀ (i:Nat) (x:Str),cs[i]? = some x→(x==("__debug__" : Str))=false∧(x==("__classdict__" : Str))=false
section
variable {w:World}{A:Around}{s:Shared}{env:Env}{L:List Res}{ns gs cs:List Str}{as:List Addr}
theorem dLC (M:List Res) (i:Nat) {x:Str}{pos:Pos}{c:Addr}{v:Value}{Q:Value→Shared→Prop}(F:aa8 env ns gs) (C:aap env .cell cs as) (H:aa0 s (M++aai c (some v)::L)) (h:Q v s) (hx:cs[i]? = some x:=by rfl) (hc:as[i]? = some c:=by rfl) :
  WP w A (eval (.Name x pos) env) Q s:=.of (wpAny_Name (wpAny_loadName_cell F.kind (C.kind i x hx) (C.at' i x c hx hc) (H.at M) h) (C.dbg i x hx).1)
theorem dLF (M:List Res) (i:Nat) {x:Str}{pos:Pos}{c:Addr}{v:Value}{Q:Value→Shared→Prop}(F:aa8 env ns gs) (C:aap env .free cs as) (H:aa0 s (M++aai c (some v)::L)) (h:Q v s) (hx:cs[i]? = some x:=by rfl) (hc:as[i]? = some c:=by rfl) :
  WP w A (eval (.Name x pos) env) Q s:=.of (wpAny_Name (wpAny_loadName_free F.kind (C.kind i x hx) (C.at' i x c hx hc) (H.at M) h (C.dbg i x hx).2) (C.dbg i x hx).1)
theorem sLC (M:List Res) (i:Nat) {x:Str}{c:Addr}{v0':Option Value}{v:Value}{Q:Unit→Shared→Prop}(F:aa8 env ns gs) (C:aap env .cell cs as) (H:aa0 s (M++aai c v0'::L)) (h:∀ s',aa0 s' (M++aai c (some v)::L)→Q () s') (hx:cs[i]? = some x:=by rfl) (hc:as[i]? = some c:=by rfl) :
  WP w A (storeName env x v) Q s:=.of (wpAny_storeName_cell F.kind (C.kind i x hx) (C.at' i x c hx hc) (H.at M) fun h' hc' hs=>h _ (H.updAt M (R':=aai c (some v)) (.of (fun b o hb e=>(hs.2 b hb).trans e) rfl rfl hc' (fun a e=>.inl e) (fun g z=>z) fun g z=>z)))
end
noncomputable def aiO (fd:FuncData) (ns cs gs:List Str):Bool:=
 (fd.scope.kind==.function)&&!fd.scope.isCoroutine&&decide ns.Nodup&&ns.all (fun x=>fd.scope.names.lookup x==some .local)&&cs.all (fun x=>fd.scope.names.lookup x==some .cell)&&gs.all (fun x=>fd.scope.names.lookup x==some .globalImplicit) &&
 (ns++gs).all (fun x=>!(x==("__debug__" : Str)))&&cs.all (fun x=>!(x==("__debug__" : Str))&&!(x==("__classdict__" : Str)))&&fd.globals==mainGlobals&&fd.builtins==builtinsNs&&fd.closure.isEmpty
structure asa (fd:FuncData) (ns cs gs:List Str):Prop where
 a:fd.scope.kind=.function
 b:fd.scope.isCoroutine=false
 c:ns.Nodup
 d:∀ x∈ns,fd.scope.names.lookup x=some .local
 e:∀ x∈cs,fd.scope.names.lookup x=some .cell
 f:∀ x∈gs,fd.scope.names.lookup x=some .globalImplicit
 g:∀ x∈ns++gs,(x==("__debug__" : Str))=false
 h:∀ x∈cs,(x==("__debug__" : Str))=false∧(x==("__classdict__" : Str))=false
 i:fd.globals=mainGlobals
 j:fd.builtins=builtinsNs
 k:fd.closure=[]
theorem anf {fd:FuncData}{ns cs gs:List Str}(h:aiO fd ns cs gs=true):asa fd ns cs gs:=by
 simp only[aiO,Bool.and_eq_true,decide_eq_true_eq,List.all_eq_true,beq_iff_eq,Bool.not_eq_true',List.isEmpty_iff] at h
 obtain⟨⟨⟨⟨⟨⟨⟨⟨⟨⟨h1,h2⟩,h3⟩,h4⟩,h5⟩,h6⟩,h7⟩,h8⟩,h9⟩,h10⟩,h11⟩:=h
 exact⟨h1,h2,h3,h4,h5,h6,h7,h8,h9,h10,h11⟩
structure FnC (fd:FuncData) (f:Addr) (ns cs gs:List Str):Prop where
 obj:∀ P,∃ o,(f,o)∈K P∧o.data=.func fd
 code:∀ P,∃ c o vs t,fd.code=.ref c∧(c,o)∈K P∧o.data=.fields vs∧vs[1]? = some (.str fd.qualname t)
 chk:aiO fd ns cs gs=true
 cel:∀ n,cs.map (fun x=>(cellsFrom n fd.scope.names []).lookup x)=(List.range cs.length).map fun i=>some (n+i)
theorem ac1 {kindOf:Str→Option NameKind}:∀ {binds:List (Str × Value)}{m:Str→Option Value}{y:Str},(∀ x∈binds,kindOf x.1=some .local)→bindL kindOf binds m y=(binds.reverse.lookup y).or (m y)
 | [],m,y,_=>rfl
 | (n,v)::r,m,y,h=>by
  simp only[bindL,if_pos (h _ (.head _)),ac1 fun x hx=>h x (.tail _ hx),List.reverse_cons,List.lookup_append]
  cases hr:r.reverse.lookup y with
  | some u=>simp
  | none=>
   by_cases hy:y=n
   ·subst hy; simp
   ·have:(y==n)=false:=by simpa using hy
    simp[List.lookup,this,hy]
theorem ae4 {kindOf:Str→Option NameKind}:∀ {binds:List (Str × Value)}{m:Str→Option Value},(∀ x∈binds,kindOf x.1=some .local)→bindC kindOf binds m=m
 | [],m,_=>rfl
 | (n,v)::r,m,h=>by rw[bindC,if_pos (h _ (.head _))]; exact ae4 fun x hx=>h x (.tail _ hx)
noncomputable def abT (L n:Nat):List Addr:=(List.range n).map fun i=>(L+1+i:Nat)
theorem FnC.lk {fd:FuncData}{f:Addr}{ns cs gs:List Str}(X:FnC fd f ns cs gs) (n:Nat) (i:Nat) (x:Str) (hx:cs[i]? = some x):(cellsFrom n fd.scope.names []).lookup x=some (n+i:Nat):=by
 have h:=congrArg (fun l:List (Option Addr)=>l[i]?) (X.cel n)
 have hlt:=(List.getElem?_eq_some_iff.mp hx).1
 simp only[List.getElem?_map,hx,Option.map_some,List.getElem?_range hlt,Option.some.injEq] at h
 exact h
theorem FnC.env {fd:FuncData}{f:Addr}{ns cs gs:List Str}(X:FnC fd f ns cs gs) (L a:Addr):aa8 (callEnvC fd L a) ns gs∧aap (callEnvC fd L a) .cell cs (abT L cs.length):=by
 have h:=X.chk
 obtain⟨h1,h2,h3,h4,h5,h6,h7,h8,h9,h10,h11⟩:=anf h
 refine⟨⟨h1,h3,fun i x hx=>h4 x (List.mem_of_getElem? hx),fun i x hx=>h6 x (List.mem_of_getElem? hx),fun i x hx=>h7 x (List.mem_of_getElem? hx),h9,h10⟩,
  ⟨fun i x hx=>h5 x (List.mem_of_getElem? hx),fun i x c hx hc=>?_,fun i x hx=>h8 x (List.mem_of_getElem? hx)⟩⟩
 have hlt:=(List.getElem?_eq_some_iff.mp hx).1
 simp only[abT,List.getElem?_map,List.getElem?_range hlt,Option.map_some,Option.some.injEq] at hc
 rw[← hc]
 exact X.lk (L+1) i x hx
theorem aeQ {fd:FuncData}{f:Addr}{ns cs gs:List Str}{s s':Shared}{mL mC:Str→Option Value}{vs vcs:List (Option Value)}(X:FnC fd f ns cs gs)
  (x:InCallC s s.heap.objs.size mL (cellsFrom (s.heap.objs.size+1) fd.scope.names []) mC s') (hm:∀ y,mL y=aal ns vs y) (hc:∀ (i:Nat) (n:Str) v,cs[i]? = some n→vcs[i]? = some v→mC n=v) (hlen:vcs.length=cs.length) :
  acr (aae (aa1 s.heap.objs.size (aal ns vs)::aeN (s.heap.objs.size+1:Nat) vcs)) s s':=by
 obtain⟨h,tk,e⟩:=x.toInCall.same
 have fresh:∀ b:Nat,s.heap.objs.size≤b→s.heap.get? b=none:=fun b hb=>by
  cases hq:s.heap.get? b with
  | none=>rfl
  | some o=>exact absurd (Heap.lt_size hq) (Nat.not_lt.mpr hb)
 refine .of x.toInCall.keep (by rw[e]) (by rw[e]) ⟨abh x.toInCall.ns hm,fun R m=>?_,ah9 fun i v hv=>?_⟩ (fun a ⟨R,m,y⟩=>?_) fun g ⟨R,m,y⟩=>?_
 ·obtain⟨i,v,_,rfl⟩:=acL m
  refine⟨fun b e1 e2=>?_,fun J z J=>z⟩
  have e3:b=s.heap.objs.size:=e1
  have e4:b=(s.heap.objs.size+1+i:Nat):=e2
  rw[e3] at e4
  exact absurd (show s.heap.objs.size=s.heap.objs.size+1+i from e4) (by exact q69)
 ·have hlt:i<cs.length:=by rw[← hlen]; exact (List.getElem?_eq_some_iff.mp hv).1
  have hx:cs[i]? = some cs[i]:=List.getElem?_eq_getElem hlt
  have:=x.cell _ _ (X.lk (s.heap.objs.size+1) i _ hx)
  rw[hc i _ v hx hv] at this
  exact this
 ·rcases List.mem_cons.mp m with rfl | m
  ·exact fresh _ (Nat.le_of_eq (Eq.symm y))
  ·obtain⟨i,v,_,rfl⟩:=acL m
   have y':a=(s.heap.objs.size+1+i:Nat):=y
   rw[y']
   exact fresh _ (by simp +arith)
 ·rcases List.mem_cons.mp m with rfl | m
  ·exact y
  ·obtain⟨i,v,_,rfl⟩:=acL m
   exact y
theorem afX {s:Shared}{c:Code}{nm qn:Value}{tk:Nat}:acr (aak s.heap.objs.size s.gens.size false (.fresh c)) s
  { s with gens:=s.gens.push (.fresh c),toks:=tk,heap:=s.heap.push { cls:=.type "generator",data:=.fields #[.int s.gens.size 0,nm,qn] } }:=by
 refine⟨⟨fun c o J e=>Heap.get?_push_of_some _ e,fun g hg J=>(Array.getElem?_push_lt hg).trans (Array.getElem?_eq_getElem hg).symm,rfl⟩,fun g x e hc hn=>?_,⟨⟨_,_,_,Heap.get?_push_size _ rfl,rfl,rfl,.inl rfl⟩,Array.getElem?_push_size ..⟩,fun a x=>.inr (aa9 a x),fun g x=>.inr (Nat.le_of_eq (Eq.symm x))⟩
 rcases hc with hc | hc
 ·have hlt:=(Array.getElem?_eq_some_iff.mp e).1
  simp only[Array.size_push] at hlt
  exact absurd (show g=s.gens.size by exact q9 ‹_› ‹_›) hn
 ·exact hc.elim
section
variable {w:World}{A:Around}{s:Shared}{L:List Res}
theorem amh {fd:FuncData}{f:Addr}{n0 n1:Str}{rest cs gs:List Str}{body:List Stmt}{vals xs:List Value}{v0:Value}{Q:Value→Shared→Prop}{d u:Nat}
  (X:FnC fd f (n0::n1::rest) cs gs) (r:aah A (d+1) (u+3)) (b:Bs w s.heap) (hbody:fd.body=.stmts body) (hbind:bindArgs fd ⟨vals,[]⟩=(newTuple xs >>= fun t=>pure [(n0,v0),(n1,t)])) (hx:xs.length≤1000)
  (h:∀ env a g t s',aa8 env (n0::n1::rest) gs→aap env .cell cs (abT env.locals cs.length)→env.scope.isCoroutine=false→
   acr (aae [aak a g false (.fresh (.func body env)),aae (aa1 env.locals (aal (n0::n1::rest) (some v0::some (.ref t)::List.replicate rest.length none))::aeN (env.locals+1:Nat) (List.replicate cs.length none)),ac5 t xs.toArray]) s s'→Q (.ref a) s')
  (hgen:fd.scope.isGenerator=true:=by rfl):WP w A (call (.ref f) vals) Q s:=by
 obtain⟨o,hoK,hod⟩:=X.obj w.params
 obtain⟨c,oc,cvs,tq,hc1,hc2,hc3,hc4⟩:=X.code w.params
 have hc:=X.chk
 obtain⟨h1,h2,h3,h4,h5,h6,h7,h8,h9,h10,h11⟩:=anf hc
 have H0:aa0 s [aa5 w aaD aaD s]:=aa0.start b
 refine .of (wpAny_call (codeAny_call_generator r.lt (b.k _ hoK) hod h2 hgen hbody ⟨c,oc,cvs,tq,hc1,b.k _ hc2,hc3,hc4⟩ ?_))
 rw[hbind,h11]
 refine wpAny_bind (m:=newTuple xs) ?_
 refine wpAny_newObj_type ?_ (by show xs.toArray.size≤sizeLine; rw[List.size_toArray]; exact Nat.le_trans hx aan)
 have H1:=H0.add (R':=ac5 s.heap.objs.size xs.toArray) (s':={ s with heap:=s.heap.push { cls:=.type "tuple",data:=.seq xs.toArray } }) (.of (fun J J e=>Heap.get?_push_of_some _ e) rfl rfl ⟨_,Heap.get?_push_size _ rfl,rfl,_,rfl⟩ aa9 fun J z=>z)
 have hloc:∀ x∈[(n0,v0),(n1,Value.ref s.heap.objs.size)],fd.scope.names.lookup x.1=some .local:=fun x hx=>by
  rcases List.mem_cons.mp hx with rfl | hx
  ·exact h4 _ (.head _)
  ·rcases List.mem_singleton.mp hx with rfl
   exact h4 _ (.tail _ (.head _))
 refine wpAny_pure (wpAny_newFunctionEnv_cells h1 (fun x hx=>.inl (hloc x hx)) fun env he s₂ x=>?_)
 subst he
 have x':=x
 rw[ae4 (binds:=[(n0,v0),(n1,Value.ref s.heap.objs.size)]) (m:=fun J=>none) (fun y hy=>hloc y hy)] at x'
 have m2:=aeQ (vcs:=List.replicate cs.length none) (vs:=some v0::some (.ref s.heap.objs.size)::List.replicate rest.length none) X x' (fun y=>by
  rw[ac1 fun y hy=>hloc y hy]
  simpa using (aay [n0,n1] [v0,.ref s.heap.objs.size] rest (List.replicate rest.length none) y h3 rfl fun z hz=>(List.mem_replicate.mp hz).2)) (fun i n v J hv=>(List.mem_replicate.mp (List.mem_of_getElem? hv)).2.symm) (by simp)
 have b2:Bs w s₂.heap:=(b.keep (aci { cls:=.type "tuple",data:=.seq xs.toArray } s.toks)).loc (fun a o J e=>x.toInCall.keep a o e) fun J=>acK
 refine⟨b2.nolimit,?_⟩
 have m:=((((H1.add m2).add (afX (c:=.func body (callEnvC fd (s.heap.push { cls:=.type "tuple",data:=.seq xs.toArray }).objs.size f)) (nm:=.str fd.name s₂.toks) (qn:=.str fd.qualname (s₂.toks+1)) (tk:=s₂.toks+1+1))).front [_,_,_]).fold (M:=[]) [_,_,_]).turn (R:=emp)
 exact h (callEnvC fd (s.heap.push { cls:=.type "tuple",data:=.seq xs.toArray }).objs.size f) s₂.heap.objs.size s₂.gens.size s.heap.objs.size _ (X.env (s.heap.push { cls:=.type "tuple",data:=.seq xs.toArray }).objs.size f).1 (X.env (s.heap.push { cls:=.type "tuple",data:=.seq xs.toArray }).objs.size f).2 h2 m
end
theorem aeL {h:Heap}{l:Addr}{items:Array Value}(x:h.IsList l items):∃ dd n sl,h.get? l=some { cls:=.type "list",dict:=dd,data:=.seq items n,slots:=sl }:=by
 obtain⟨⟨cls,dd,data,sl⟩,ho,hc,n,hd⟩:=x
 cases hc
 cases hd
 exact⟨dd,n,sl,ho⟩
theorem akO {h:Heap}{l:Addr}{items:Array Value}(x:h.IsTuple l items):∃ dd n sl,h.get? l=some { cls:=.type "tuple",dict:=dd,data:=.seq items n,slots:=sl }:=by
 obtain⟨⟨cls,dd,data,sl⟩,ho,hc,n,hd⟩:=x
 cases hc
 cases hd
 exact⟨dd,n,sl,ho⟩
section
variable {w:World}{A:Around}{s:Shared}{env:Env}{L:List Res}{ns gs:List Str}
theorem aaw {value slice pos}{Q:Value→Shared→Prop}(h:WP w A (eval value env) (qU w A env value slice Q) s):WP w A (eval (.Subscript value slice pos) env) Q s:=by
 simp only[eval_Subscript]
 exact .bind (h.mono fun o s₁ h1'=>.bind (.hold (h1'.mono fun i s₂ h2''=>.bind (.stand h2''))))
theorem aeh (i:Nat) {vs:List (Option Value)}{x:Str}{p q pos:Pos}{k:Int}{n:Nat}{v:Value}{Q:Value→Shared→Prop}(F:aa8 env ns gs) (H:aa0 s (aa1 env.locals (aal ns vs)::L)) (hv:vs[i]? = some (some v))
  (h:∀ s' t,aa0 s' (aa1 env.locals (aal ns vs)::L)→WP w A (subscriptTail (.Name x p) (.Constant (.int k) n q) v (.int k t)) Q s') (hx:ns[i]? = some x:=by rfl):WP w A (eval (.Subscript (.Name x p) (.Constant (.int k) n q) pos) env) Q s:=aaw (dL i F H hv (aaW H h) hx)
theorem aim {value slice:Expr}{t:Addr}{items:Array Value}{k:Nat}{u:Tok}{x:Value}{Q:Value→Shared→Prop}(M:List Res) (H:aa0 s (M++ac5 t items::L)) (hx:items[k]? = some x) (hk:k≤1000) (h:Q x s)
  (hs:subscripted slice false (.ref t) (.int k u)=operate [.ref t,.int k u] (getItem (.ref t) (.int k u)):=by with_unfolding_all rfl) (hg:∀ r,letTemporaryGo value (.ref t) r=pure ():=by intro _; with_unfolding_all rfl) :
  WP w A (subscriptTail value slice (.ref t) (.int k u)) Q s:=
 .of (item_tuple (H.at M) (by exact q39 ‹_›) (by exact q8 ‹_›) (seqIndex_of (by exact q18 ‹_›) (by have:=(Array.getElem?_eq_some_iff.mp hx).1; exact q31 ‹_›)) (by simpa using hx) h hs hg)
theorem ag3 {t:Addr}{items:Array Value}{Q:Value→Shared→Prop}(M:List Res) (H:aa0 s (M++ac5 t items::L)) (hn:items.size≤1000) (h:∀ s' u,aa0 s' (M++ac5 t items::L)→Q (.int items.size u) s'):WP w A (call (.builtin "len") [.ref t]) Q s:=
 .of (len_tuple (H.at M) (by omega) (h _ _ (H.keep (aab _))))
theorem aln {value:Expr}{sl:Option Expr}{p2:Pos}{t b:Addr}{items:Array Value}{Q:Value→Shared→Prop}(ht:s.heap.IsTuple t items) (hg:∀ r,letTemporaryGo value (.ref t) r=pure ())
  (h:WP w A (getItem (.ref t) (.ref b)) Q s):WP w A (subscriptTail value (.Slice sl none none p2) (.ref t) (.ref b)) Q s:=by
 unfold subscriptTail
 have tT:s.TypeIs (.ref t) "tuple" := let ⟨o,ho,hc,_⟩:=ht; ⟨o,ho,hc⟩
 refine .bind (.bind (.of (wpAny_specialOf tT slot_tuple_getitem.lookup ?_)))
 refine .pure ?_
 exact .bind (.operate (h.mono fun r s₂ x=>.bind (.eq (hg r) (.pure x))))
theorem aji {value:Expr}{a k:Nat}{p1 p2 pos:Pos}{Q:Value→Shared→Prop}
  (h:WP w A (eval value env) (fun o s₁=>∃ t items R R₂ M L,o=.ref t∧aa0 s₁ (R::R₂::(M++ac5 t items::L))∧1≤a∧a≤items.size∧items.size≤1000∧(∀ r,letTemporaryGo value (.ref t) r=pure ()) ∧
   ∀ s' b,aa0 s' (R::R₂::ac5 b (items.toList.drop a).toArray::(M++ac5 t items::L))→Q (.ref b) s') s) :
  WP w A (eval (.Subscript value (.Slice (some (.Constant (.int a) k p1)) none none p2) pos) env) Q s:=by
 exists aaw (h.mono fun o s₁ x=>?_)
 obtain⟨t,items,R,R₂,M,L,rfl,H,h1,ha,hsz,hg,hQ⟩:=x
 refine .bind ?_
 show WP w A (eval (.Constant (.int a) k p1) env) _ _
 exists aaW H fun s₂ u H2'=>.bind (.hold (.pure (.bind (.hold (.pure ?_)))))
 refine .of (wpAny_newObj_type ?_ (by size_fits))
 have H3':=H2'.keep (aci { cls:=.type "slice",data:=.fields #[.int a u,.none,.none] } s₂.toks)
 refine aln (H3'.at (R::R₂::M)) hg (.of (getItem_tuple_from (H3'.at (R::R₂::M)) (Heap.IsSliceOf.new ..) h1 ha ?_ (Nat.le_trans hsz aan)))
 exact hQ _ _ (H3'.made (R':=ac5 _ _) (.of (fun J J e=>Heap.get?_push_of_some _ e) rfl rfl ⟨_,Heap.get?_push_size _ rfl,rfl,_,rfl⟩ aa9 fun J z=>z))
theorem arQ {t b:Addr}{vs ws:List Value}{R R₂:Res}{Q:Value→Shared→Prop}(M N:List Res) (H:aa0 s (R::R₂::L)) (ht:s.heap.IsTuple t vs.toArray) (hb:s.heap.IsTuple b ws.toArray) (hv:vs≠[]) (hw:ws≠[]) (hsz:vs.length+ws.length≤1000)
  (h:∀ s' c,aa0 s' (R::R₂::ac5 c (vs++ws).toArray::L)→Q (.ref c) s'):WP w A (binaryOp .Add (.ref t) (.ref b)) Q s:=by
 obtain⟨dd,n,sl,ho⟩:=akO ht
 obtain⟨dd2,n2,sl2,ho2⟩:=akO hb
 have e:vs.toArray++ws.toArray=(vs++ws).toArray:=by simp
 refine .of (concat_meets ⟨_,ho,rfl⟩ ⟨_,ho2,rfl⟩ noFill_tuple_add seq_tuple_add PySem.F.slot_tuple_add PySem.F.entry_tuple_add (PySem.F.args_tuple_add_2 _ _)
  (tuple_addW2 t b vs.toArray ws.toArray n n2 dd dd2 sl sl2 (by simpa using hv) (by simpa using hw) (by rw[List.size_toArray,List.size_toArray]; exact Nat.le_trans hsz aan)) ⟨ho,ho2,?_⟩)
 rw[e]
 exact h _ _ (H.made (R':=ac5 _ _) (.of (fun J J e=>Heap.get?_push_of_some _ e) rfl rfl ⟨_,Heap.get?_push_size _ rfl,rfl,_,rfl⟩ aa9 fun J z=>z))
end
noncomputable abbrev LC (elt target iter:Expr) (ifs:List Expr) (scope:Scope) (pos:Pos):Expr:=.ListComp elt [⟨target,iter,ifs,0⟩] scope pos
noncomputable def aq8 (w:World) (A:Around) (cenv:Env) (ifs:List Expr) (Q:Bool→Shared→Prop) (s:Shared):Prop:=match ifs with
 | []=>Q true s
 | [c]=>WP w A (isTrue c cenv (eval c cenv)) Q s
 | _=>False
section
variable {w:World}{A:Around}{s:Shared}{elt target iter:Expr}{ifs:List Expr}{scope:Scope}{pos:Pos}{it acc:Value}{cenv:Env}
theorem abb (I:Nat→Shared→Prop) (P:Shared→Prop)
  (turn:∀ n s,I n s→WP w A (pyNext it) (fun r s₁=>match r with
   | none=>P s₁
   | some v=>WP w A (letOwnedTupleGo target it v) (fun J s₂=>WP w A (assign target cenv v) (fun J s3=>aq8 w A cenv ifs (fun ok s4'=>
     if ok then WP w A (eval elt cenv) (fun y s5=>WP w A (call (.builtin "list.append") [acc,y]) (fun J s6=>Nxt I n s6) s5) s4' else Nxt I n s4') s3) s₂) s₁) s)
  (n:Nat) (h:I n s):CP w A (.compLoop (LC elt target iter ifs scope pos) 0 it acc cenv) (fun f s'=>f=.next∧P s') s:=by
 refine⟨ad9 rfl I (fun n s hI=>?_) n h⟩
 refine aaF ?_
 have t:=turn n s hI
 have emit:∀ (s4':Shared),WP w A (eval elt cenv) (fun y s5=>WP w A (call (.builtin "list.append") [acc,y]) (fun J s6=>Nxt I n s6) s5) s4'→
   wpX (model pw w) A (do let _ ← (do let _ ← PySem.call (.builtin "list.append") [acc,← eval elt cenv]; pure PUnit.unit:Sem PUnit); again (.compLoop (LC elt target iter ifs scope pos) 0 it acc cenv))
    (fun fin s'=>match fin with | .done f=>(match (Except.ok f:Result) with | .ok f=>f=.next∧P s' | .error _=>False) | .again c'=>(c'=.compLoop (LC elt target iter ifs scope pos) 0 it acc cenv∧∃ m,m<n∧I m s')∨(c'.quiet=true∧aaA (model pw w) A c' (fun r s'=>match r with | .ok f=>f=.next∧P s' | .error _=>False) s')) F0 s4':=fun s4' x=>
  aad (aad (aa4 x.go (fun y s5 z=>aad (aa4 z.go (fun J s6 q=>aag (aag (.inl ⟨rfl,q.ex⟩))) fun J J e=>e)) fun J J e=>e))
 refine aad (aaR (aad (aa4 t.go (fun r s₁ x=>?_) fun J J e=>e)))
 cases r with
 | none=>exact aag ⟨rfl,x⟩
 | some v=>
  refine aad (aa4 x.go (fun J s₂ x=>aad (aa4 x.go (fun J s3 x=>?_) fun J J e=>e)) fun J J e=>e)
  match ifs,x with
  | [],x=>
   refine aad (aag ?_)
   exact emit s3 x
  | [c],x=>
   refine aad ?_
   rw[List.forIn_cons]
   refine aad ?_
   refine aad (aa4 x.go (fun ok s4' x=>aag ?_) fun J J e=>e)
   show wpX _ _ (forIn [] ok _) _ _ _
   refine aag ?_
   cases ok with
   | true=>exact emit s4' x
   | false=>exact aag (.inl ⟨rfl,x.ex⟩)
end
noncomputable def acT (scope:Scope) (ns cs gs:List Str):Bool:=
 (scope.kind==.function)&&decide ns.Nodup&&ns.all (fun x=>scope.names.lookup x==some .local)&&cs.all (fun x=>scope.names.lookup x==some .free)&&gs.all (fun x=>scope.names.lookup x==some .globalImplicit) &&
 (ns++gs).all (fun x=>!(x==("__debug__" : Str)))&&cs.all (fun x=>!(x==("__debug__" : Str))&&!(x==("__classdict__" : Str)))&&scope.names.all (fun x=>x.2 != .cell&&(x.2 != .local||scope.names.lookup x.1==some .local)&&(x.2 != .free||cs.contains x.1))
structure asf (scope:Scope) (ns cs gs:List Str):Prop where
 a:scope.kind=.function
 c:ns.Nodup
 d:∀ x∈ns,scope.names.lookup x=some .local
 e:∀ x∈cs,scope.names.lookup x=some .free
 f:∀ x∈gs,scope.names.lookup x=some .globalImplicit
 g:∀ x∈ns++gs,(x==("__debug__" : Str))=false
 h:∀ x∈cs,(x==("__debug__" : Str))=false∧(x==("__classdict__" : Str))=false
 i:∀ x∈scope.names,((x.2 != .cell)=true∧(x.2 != .local||scope.names.lookup x.1==some .local)=true)∧(x.2 != .free||cs.contains x.1)=true
theorem alt {scope:Scope}{ns cs gs:List Str}(h:acT scope ns cs gs=true):asf scope ns cs gs:=by
 simp only[acT,Bool.and_eq_true,decide_eq_true_eq,List.all_eq_true,beq_iff_eq,Bool.not_eq_true'] at h
 obtain⟨⟨⟨⟨⟨⟨⟨h1,h2⟩,h3⟩,h4⟩,h5⟩,h6⟩,h7⟩,h8⟩:=h
 exact⟨h1,h2,h3,h4,h5,h6,h7,h8⟩
theorem ad3 {p:Str→NameKind→Bool}:∀ {names:List (Str × NameKind)}{y:Str},(names.map fun x=>if p x.1 x.2 then (x.1,NameKind.cell) else (x.1,x.2)).lookup y=(names.lookup y).map fun k=>if p y k then .cell else k
 | [],y=>rfl
 | (n,k)::r,y=>by
  by_cases hy:y=n
  ·subst hy
   cases hp:p y k<;>simp[hp]
  ·have hb:(y==n)=false:=by simpa using hy
   have ih:=ad3 (p:=p) (names:=r) (y:=y)
   cases hp:p n k<;>simp[List.lookup,hb,hp] at ih ⊢<;>exact ih
noncomputable def agK (f:Str→Addr):List (Str × NameKind)→List (Str × Addr)→List (Str × Addr)
 | [],acc=>acc
 | (n,k)::r,acc=>if k==.free then agK f r ((n,f n)::acc) else agK f r acc
theorem agU {f:Str→Addr}:∀ {names:List (Str × NameKind)}{acc:List (Str × Addr)}{x:Str},((∃ c,(x,c)∈acc)∨(x,NameKind.free)∈names)→(∀ y c,(y,c)∈acc→c=f y)→(agK f names acc).lookup x=some (f x):=by
 intro names
 induction names with
 | nil=>
  intro acc x h ha
  rcases h with⟨c,h⟩ | h
  ·show acc.lookup x=_
   cases hq:acc.lookup x with
   | none=>exact absurd h (by
     have:=List.lookup_eq_none_iff.mp hq
     intro hm
     have:=this _ hm
     simp at this)
   | some c'=>rw[ha x c' (mem_of_lookup hq)]
  ·cases h
 | cons p r ih=>
  obtain⟨n,k⟩:=p
  intro acc x h ha
  unfold agK
  split
  ·rename_i hk
   refine ih ?_ fun y c m=>?_
   ·rcases h with⟨c,h⟩ | h
    ·exact .inl ⟨c,.tail _ h⟩
    ·rcases List.mem_cons.mp h with e | h
     ·cases e; exact .inl ⟨_,.head _⟩
     ·exact .inr h
   ·rcases List.mem_cons.mp m with e | m
    ·cases e; rfl
    ·exact ha y c m
  ·rename_i hk
   refine ih ?_ ha
   rcases h with h | h
   ·exact .inl h
   ·rcases List.mem_cons.mp h with e | h
    ·cases e; simp at hk
    ·exact .inr h
theorem abt {scope:Scope}{env:Env}(f:Str→Addr) (h:∀ x∈scope.names,x.2=.free→env.cells.lookup x.1=some (f x.1)):closureFor scope env=pure (agK f scope.names []):=by
 unfold closureFor
 generalize scope.names=names at h
 suffices H:∀ (names:List (Str × NameKind)) (acc:List (Str × Addr)),(∀ x∈names,x.2=.free→env.cells.lookup x.1=some (f x.1))→
   (forIn names acc fun (x:Str × NameKind) cs=>(if (x.2==NameKind.free)=true then (do let c ← cellOf env x.1; pure (ForInStep.yield ((x.1,c)::cs))) else pure (ForInStep.yield cs):Sem (ForInStep (List (Str × Addr)))))=pure (agK f names acc) by
  have:=H names [] h
  exact (congrArg (· >>= fun cs=>pure cs) this)
 intro names
 induction names with
 | nil=>intro acc _; rfl
 | cons x r ih=>
  intro acc hh
  obtain⟨n,k⟩:=x
  rw[List.forIn_cons]
  unfold agK
  by_cases hk:(k==NameKind.free)=true
  ·rw[if_pos hk,if_pos hk]
   simp only[cellOf,(hh (n,k) (.head _) (of_decide_eq_true hk)),pure_bind]
   exact ih _ fun y hy=>hh y (.tail _ hy)
  ·rw[if_neg hk,if_neg hk,pure_bind]
   exact ih _ fun y hy=>hh y (.tail _ hy)
section
variable {w:World}{A:Around}{s:Shared}{env:Env}{ns gs:List Str}
theorem aj4 {scope:Scope}{nsC csC gsC:List Str}{asC:List Addr}{L:Addr}(chk:acT scope nsC csC gsC=true) (F:aa8 env ns gs) (hcell:∀ (i:Nat) (x:Str) (c:Addr),csC[i]? = some x→asC[i]? = some c→env.cells.lookup x=some c)
  (hkd:∀ (i:Nat) (x:Str),csC[i]? = some x→env.kindOf x=some .cell) :
  aa8 { newEnv scope L env.globals (agK (fun x=>(env.cells.lookup x).getD 0) scope.names []) env.qual none .none (some env) builtinsNs with
   scope:={ scope with names:=scope.names.map fun x=>if (x.2==.free&&env.scope.kind==.function&&env.kindOf x.1==some .cell) then (x.1,.cell) else (x.1,x.2) } } nsC gsC ∧
  aap { newEnv scope L env.globals (agK (fun x=>(env.cells.lookup x).getD 0) scope.names []) env.qual none .none (some env) builtinsNs with
   scope:={ scope with names:=scope.names.map fun x=>if (x.2==.free&&env.scope.kind==.function&&env.kindOf x.1==some .cell) then (x.1,.cell) else (x.1,x.2) } } .cell csC asC:=by
 obtain⟨h1,h2,h3,h4,h5,h6,h7,h8⟩:=alt chk
 have lk:∀ y,(scope.names.map fun x=>if (x.2==.free&&env.scope.kind==.function&&env.kindOf x.1==some .cell) then (x.1,NameKind.cell) else (x.1,x.2)).lookup y =
   (scope.names.lookup y).map fun k=>if (k==.free&&env.scope.kind==.function&&env.kindOf y==some .cell) then .cell else k:=fun y=>
  ad3 (p:=fun n k=>k==.free&&env.scope.kind==.function&&env.kindOf n==some .cell)
 refine⟨⟨h1,h2,fun i x hx=>?_,fun i x hx=>?_,fun i x hx=>h6 x (List.mem_of_getElem? hx),F.globals,F.builtins⟩,⟨fun i x hx=>?_,fun i x c hx hc=>?_,fun i x hx=>h7 x (List.mem_of_getElem? hx)⟩⟩
 ·show (List.map _ scope.names).lookup x=_
  rw[lk,h3 x (List.mem_of_getElem? hx)]; rfl
 ·show (List.map _ scope.names).lookup x=_
  rw[lk,h5 x (List.mem_of_getElem? hx)]; rfl
 ·show (List.map _ scope.names).lookup x=_
  rw[lk,h4 x (List.mem_of_getElem? hx),Option.map_some,F.kind,hkd i x hx]; rfl
 ·have e:=hcell i x c hx hc
  show (agK _ scope.names []).lookup x=some c
  rw[agU (.inr (mem_of_lookup (h4 x (List.mem_of_getElem? hx)))) (fun y c m=>by cases m),e]; rfl
end
section
variable {w:World}{A:Around}{s:Shared}{env:Env}{ns gs:List Str}{elt target iter:Expr}{ifs:List Expr}{scope:Scope}{pos ppos:Pos}
theorem amA {cenv:Env}{cellsOf:List (Str × NameKind)→List Value}{m:Str→Option Value}{L:List Res}{Q:Unit→Shared→Prop}(vs:List (Str × NameKind)) (hk:cenv.scope.kind=.function) (hv:∀ x∈vs,x.2=.local→cenv.kindOf x.1=some .local)
  (H:aa0 s (aa1 cenv.locals m::L)) (h:∀ s' m',aa0 s' (aa1 cenv.locals m'::L)→Q () s'):WP w A (comprehension.letGo cenv cellsOf vs) Q s:=
 .of (wpAny_comp_letGo hk vs s m hv H.2.1 fun h' m' hn hs=>h _ m' (H.upd (R':=aa1 cenv.locals m') (.of (fun b o hb e=>(hs.2 b hb).trans e) rfl rfl hn (fun a e=>.inl e) (fun g z=>z) fun g z=>z)))
theorem ad4 {it acc:Value}{cenv:Env}{P:Flow→Shared→Prop}(h1:CP w A (.compLoop (LC elt target iter ifs scope pos) 0 it acc cenv) P s) (h2:WP w A (pyIter it) (fun it' s'=>CP w A (.compLoop (LC elt target iter ifs scope pos) 0 it' acc cenv) P s') s) :
  CP w A (.compStart (LC elt target iter ifs scope pos) 0 it acc cenv) P s:=by
 refine⟨aax ?_⟩
 refine aaF ?_
 refine aby (wpAny_askSetting ?_)
 split
 ·exact aad (aag (aag ⟨rfl,h1.go⟩))
 ·refine aby (wpAny_rule ?_)
  exact aad (aaR (aad (aa4 h2.go (fun it' s' x=>aag ⟨rfl,x.go⟩) fun J J e=>e.elim)))
theorem aq2 {first:Sem Value}{use:Option (Value→Sem Unit)}{nsC csC gsC:List Str}{asC:List Addr}{Q:Value→Shared→Prop}(chk:acT scope nsC csC gsC=true) (F:aa8 env ns gs) (hlen:csC.length=asC.length)
  (hcell:∀ (i:Nat) (x:Str) (c:Addr),csC[i]? = some x→asC[i]? = some c→env.cells.lookup x=some c) (hkd:∀ (i:Nat) (x:Str),csC[i]? = some x→env.kindOf x=some .cell)
  (hs:∀ x,foldedSetIterable iter env x=pure x)
  (h:WP w A first (fun x s₁=>WP w A (pyIter x) (fun it s₂=>∃ R R₂ L,aa0 s₂ (R::R₂::L)∧∀ cenv acc s3,aa8 cenv nsC gsC→aap cenv .cell csC asC→aa0 s3 (aa1 cenv.locals (aal nsC (List.replicate nsC.length none))::R::R₂::aa2 acc #[]::L)→
   CP w A (.compStart (LC elt target iter ifs scope pos) 0 it (.ref acc) cenv) (fun J s4'=>∃ m L',aa0 s4' (aa1 cenv.locals m::L')∧match use with
    | none=>∀ s5,aa0 s5 L'→Q (.ref acc) s5
    | some u=>WP w A (u (.ref acc)) (fun J s6=>∃ m2' L2,aa0 s6 (aa1 cenv.locals m2'::L2)∧∀ s7,aa0 s7 L2→Q .none s7) s4') s3) s₁) s) :
  WP w A (comprehension (LC elt target iter ifs scope pos) scope env ppos (newList []) false first use) Q s:=by
 have chk':=chk
 obtain⟨h1,h2,h3,h4,h5,h6,h7,h8⟩:=alt chk'
 have hcl:=abt (scope:=scope) (env:=env) (fun x=>(env.cells.lookup x).getD 0) fun x hx hf=>by
  have hc:x.1∈csC:=by
   rcases Bool.or_eq_true _ _ |>.mp ((h8 x hx).2) with z | z
   ·rw[hf] at z; exact absurd z (by decide)
   ·simpa using z
  obtain⟨i,hi,e⟩:=List.mem_iff_getElem.mp hc
  have e1:csC[i]? = some x.1:=by rw[List.getElem?_eq_getElem hi,e]
  have e2:asC[i]? = some asC[i]:=List.getElem?_eq_getElem (hlen▸hi)
  rw[hcell i x.1 _ e1 e2]; rfl
 refine .bind (h.mono fun x s₁ h1'=>.bind (.stand ?_))
 rw[hcl]
 refine .bind (.eq (hs x) (.bind (.hold (h1'.mono fun it s₂ h2''=>?_))))
 obtain⟨R,R₂,L,H,hC⟩:=h2''
 have step:∀ (k:Value→Sem Value),WP w A (newList [] >>= k) Q s₂→WP w A (if use.isSome=true then (standAt (LC elt target iter ifs scope pos).pos >>= fun J=>(newList [] >>= k)) else (newList [] >>= k)) Q s₂:=fun k hk=>by
  split
  ·exact .bind (.stand hk)
  ·exact hk
 refine step _ ?_
 refine .bind (.of (wpAny_newList ?_))
 have H1':=H.made (R':=aa2 s₂.heap.objs.size #[]) (s':={ s₂ with heap:=s₂.heap.push { cls:=.type "list",data:=.seq #[] } }) (.of (fun J J e=>Heap.get?_push_of_some _ e) rfl rfl ⟨_,Heap.get?_push_size _ rfl⟩ aa9 fun J z=>z)
 refine .bind (.pure ?_)
 refine .bind (.of (wpAny_newFunctionEnv (fun x hx=>by
  have:=(h8 x hx).1.1
  simpa using this) (fun x hx=>nomatch hx) (fun h' hn hsb=>?_) h1))
 have hkp:∀ b o,(s₂.heap.push { cls:=.type "list",data:=.seq #[] }).get? b=some o→h'.get? b=some o:=fun b o q=>hsb.extBut b o (Nat.ne_of_lt (Heap.lt_size q)) (Heap.get?_push_of_some _ q)
 have H2':=H1'.add (R':=aa1 (s₂.heap.push { cls:=.type "list",data:=.seq #[] }).objs.size (aal nsC (List.replicate nsC.length none))) (s':={ s₂ with heap:=h' }) (.of hkp rfl rfl (abh hn fun y=>by
  simpa using (aay [] [] nsC (List.replicate nsC.length none) y h2 rfl fun z hz=>(List.mem_replicate.mp hz).2)) aa9 fun g z=>z)
 have hx:=hC _ _ _ (aj4 (L:=(s₂.heap.push { cls:=.type "list",data:=.seq #[] }).objs.size) chk F hcell hkd).1 (aj4 (L:=(s₂.heap.push { cls:=.type "list",data:=.seq #[] }).objs.size) chk F hcell hkd).2 H2'
 have hv:∀ x∈(scope.names.filter fun x=>(x.2==.local||x.2==.cell)&&x.1 != (".0" : Str)),x.2=.local→scope.names.lookup x.1=some .local:=fun x hx hl=>by
  have:=(h8 x (List.mem_filter.mp hx).1).1.2
  rw[hl] at this
  simpa using this
 have hv2:∀ x∈(scope.names.filter fun x=>(x.2==.local||x.2==.cell)&&x.1 != (".0" : Str)),x.2=.local→
   Env.kindOf { newEnv scope (s₂.heap.push { cls:=.type "list",data:=.seq #[] }).objs.size env.globals (agK (fun x=>(env.cells.lookup x).getD 0) scope.names []) env.qual none .none (some env) builtinsNs with
   scope:={ scope with names:=scope.names.map fun x=>if (x.2==.free&&env.scope.kind==.function&&env.kindOf x.1==some .cell) then (x.1,.cell) else (x.1,x.2) } } x.1=some .local:=fun x hx hl=>by
  show (List.map _ scope.names).lookup x.1=_
  simp only[ad3 (p:=fun n k=>k==.free&&env.scope.kind==.function&&env.kindOf n==some .cell),hv x hx hl]; rfl
 dsimp only
 refine .hold (.bind ⟨ac3 (ab3 (agI (abl hx.go fun r s4' q=>?_)))⟩)
 cases r with
 | error x=>exact q.elim
 | ok f=>
  obtain⟨m,L',H4',q⟩:=q
  cases use with
  | none=>exact (WP.bind (.hold (amA _ h1 (fun x hx=>hv2 x (List.mem_reverse.mp hx)) H4' fun s5 m' H5'=>.pure (q s5 (H5'.drop [] fun J J z=>z.elim)))))
  | some u=>
   refine (WP.bind (.rule (.bind (.hold (q.mono fun J s6 q=>?_)))))
   obtain⟨m2',L2,H6,q⟩:=q
   refine WP.bind (amA _ h1 (fun x hx=>hv2 x ?_) H6 fun s7 m' H7'=>.pure (q s7 (H7'.drop [] fun J J z=>z.elim)))
   rcases List.mem_append.mp hx with hx | hx
   ·exact List.mem_reverse.mp (List.mem_of_mem_drop hx)
   ·exact List.mem_reverse.mp (List.mem_of_mem_take hx)
end
noncomputable def aiM (a:Addr) (p:Heap→Prop) (live:∀ h,p h→(h.get? a).isSome=true) (loc:∀ h h',p h→(∀ o,h.get? a=some o→h'.get? a=some o)→p h'):Res where
 fp:=(· = a)
 gp:=aaD
 P:=fun s=>p s.heap
 live:=fun s h=>⟨fun b e=>by subst e; exact live _ h,fun J z=>z.elim⟩
 loc:=fun s s' h k J J=>loc _ _ h fun o ho=>k a o rfl ho
noncomputable def abx (it l:Addr) (i:Nat):Res:=aiM it (fun h=>h.IsListIter it l i) (fun h ⟨o,ho,_⟩=>by rw[ho]; rfl) fun h h' ⟨o,ho,r⟩ k=>⟨o,k o ho,r⟩
noncomputable def aiT (it l:Addr) (i:Nat):Res:=aiM it (fun h=>h.IsTupleIter it l i) (fun h ⟨o,ho,_⟩=>by rw[ho]; rfl) fun h h' ⟨o,ho,r⟩ k=>⟨o,k o ho,r⟩
noncomputable def akB (r:Addr) (a b c:Int) (t u v:Tok):Res:=aiM r (fun h=>IsRange h r a b c t u v) (fun h ho=>by rw[show h.get? r=some _ from ho]; rfl) fun h h' ho k=>k _ ho
noncomputable def ahS (it:Addr) (x left step:Int):Res:=aiM it (fun h=>IsRangeIter h it x left step) (fun h ho=>by rw[show h.get? it=some _ from ho]; rfl) fun h h' ho k=>k _ ho
section
variable {w:World}{A:Around}{s:Shared}{env:Env}{L:List Res}
theorem aaB {R R':Res} {a:Addr} {s:Shared} {h':Heap} (hs:Heap.SameBut a s.heap h') (tk:Nat) (hR:R.fp=(· = a)) (hR':R'.fp=(· = a)) (hg:R.gp=aaD) (hg':R'.gp=aaD) (hp:R'.P { s with heap:=h',toks:=tk }):Chg R R' s { s with heap:=h',toks:=tk }:=
 .of (fun b o hb e=>(hs.2 b (by rw[hR] at hb; exact hb)).trans e) rfl rfl hp (fun b e=>.inl (by rw[hR'] at e; rw[hR]; exact e)) (fun g z=>by rw[hg] at z; exact z) fun g z=>by rw[hg'] at z; exact z
theorem afd {R:Res} {a:Addr} {s:Shared} {h':Heap} (hs:Heap.ExtBut a s.heap h') (hR:R.fp=(· = a)) (hg:R.gp=aaD):Chg R emp s { s with heap:=h' }:=
 .of (fun b o hb e=>hs b o (by rw[hR] at hb; exact hb) e) rfl rfl trivial (fun b e=>e.elim) (fun g z=>by rw[hg] at z; exact z) fun g z=>z
theorem aqf {l:Addr}{items:Array Value}{R R₂:Res}{Q:Value→Shared→Prop}(M:List Res) (H:aa0 s (R::R₂::(M++aa2 l items::L))) (h:∀ s' it,aa0 s' (R::R₂::abx it l 0::(M++aa2 l items::L))→Q (.ref it) s'):WP w A (pyIter (.ref l)) Q s:=
 .of (wpAny_pyIter_list (H.at (R::R₂::M)).isList (h _ _ (H.made (R':=abx _ l 0) (.of (fun J J e=>Heap.get?_push_of_some _ e) rfl rfl ⟨_,Heap.get?_push_size _ rfl,rfl,rfl⟩ aa9 fun J z=>z))))
theorem aaN {it l:Addr}{i:Nat}{items:Array Value}{x:Value}{Q:Option Value→Shared→Prop}(M:List Res) (H:aa0 s (M++abx it l i::L)) (hl:s.heap.IsList l items) (hx:items[i]? = some x) (h:∀ s',aa0 s' (M++abx it l (i+1)::L)→Q (some x) s'):WP w A (pyNext (.ref it)) Q s:=
 .of (wpAny_pyNext_list_item (H.at M) hl hx fun h' hit hs=>h _ (H.updAt M (aaB hs s.toks rfl rfl rfl rfl hit)))
theorem abF {it l:Addr}{i:Nat}{items:Array Value}{Q:Option Value→Shared→Prop}(M:List Res) (hh:A.handled=none) (H:aa0 s (M++abx it l i::L)) (hl:s.heap.IsList l items) (hx:items[i]? = none) (h:∀ s',aa0 s' (M++emp::L)→Q none s'):WP w A (pyNext (.ref it)) Q s:=
 .of (wpAny_pyNext_list_end hh (H.at M) hl hx fun h' he=>h _ (H.updAt M (afd he rfl rfl)))
theorem amS {l:Addr}{items:Array Value}{R R₂:Res}{Q:Value→Shared→Prop}(M:List Res) (H:aa0 s (R::R₂::(M++ac5 l items::L))) (h:∀ s' it,aa0 s' (R::R₂::aiT it l 0::(M++ac5 l items::L))→Q (.ref it) s'):WP w A (pyIter (.ref l)) Q s:=
 .of (wpAny_pyIter_tuple (H.at (R::R₂::M)) (h _ _ (H.made (R':=aiT _ l 0) (.of (fun J J e=>Heap.get?_push_of_some _ e) rfl rfl ⟨_,Heap.get?_push_size _ rfl,rfl,rfl⟩ aa9 fun J z=>z))))
theorem amt {it l:Addr}{i:Nat}{items:Array Value}{x:Value}{Q:Option Value→Shared→Prop}(M:List Res) (H:aa0 s (M++aiT it l i::L)) (hl:s.heap.IsTuple l items) (hx:items[i]? = some x) (h:∀ s',aa0 s' (M++aiT it l (i+1)::L)→Q (some x) s'):WP w A (pyNext (.ref it)) Q s:=
 .of (wpAny_pyNext_tuple_item (H.at M) hl hx fun h' hit hs=>h _ (H.updAt M (aaB hs s.toks rfl rfl rfl rfl hit)))
theorem ant {it l:Addr}{i:Nat}{items:Array Value}{Q:Option Value→Shared→Prop}(M:List Res) (hh:A.handled=none) (H:aa0 s (M++aiT it l i::L)) (hl:s.heap.IsTuple l items) (hx:items[i]? = none) (h:∀ s',aa0 s' (M++emp::L)→Q none s'):WP w A (pyNext (.ref it)) Q s:=
 .of (wpAny_pyNext_tuple_end hh (H.at M) hl hx fun h' he=>h _ (H.updAt M (afd he rfl rfl)))
theorem abE {l:Addr}{items:Array Value}{x:Value}{Q:Value→Shared→Prop}(M:List Res) (H:aa0 s (M++aa2 l items::L)) (hn:items.size≤1000) (h:∀ s',aa0 s' (M++aa2 l (items.push x)::L)→Q .none s'):WP w A (call (.builtin "list.append") [.ref l,x]) Q s:=
 .of (wpAny_list_append_plain (H.at M) (fun h' hl hs=>h _ (H.updAt M (aaB hs s.toks rfl rfl rfl rfl hl))) (Nat.le_trans hn aan))
theorem afs {x:Str}{p:Pos}{it v:Value}{Q:Unit→Shared→Prop}(h:Q () s):WP w A (letOwnedTupleGo (.Name x p) it v) Q s:=.pure h
theorem goS (i:Nat) {ns gs:List Str}{vs:List (Option Value)}{x:Str}{p:Pos}{it v:Value}{Q:Unit→Shared→Prop}(F:aa8 env ns gs) (H:aa0 s (aa1 env.locals (aal ns vs)::L)) (hl:ns.length=vs.length)
  (h:∀ s',aa0 s' (aa1 env.locals (aal ns (vs.set i (some v)))::L)→Q () s') (hx:ns[i]? = some x:=by rfl):WP w A (letOwnedTupleGo (.Name x p) it v) (fun J s'=>WP w A (assign (.Name x p) env v) Q s') s:=afs (aS i F H hl h hx)
end
section
variable {w:World}{A:Around}{s:Shared}{env:Env}{ns gs:List Str}{elt target iter:Expr}{ifs:List Expr}{scope:Scope}{pos:Pos}{nsC csC gsC:List Str}{asC:List Addr}
theorem agq {Q:Value→Shared→Prop}(F:aa8 env ns gs) (C:aap env .cell csC asC) (nsC gsC:List Str)
  (h:WP w A (eval iter env) (fun x s₁=>WP w A (pyIter x) (fun it s₂=>∃ R R₂ L,aa0 s₂ (R::R₂::L)∧∀ cenv acc s3,aa8 cenv nsC gsC→aap cenv .cell csC asC→aa0 s3 (aa1 cenv.locals (aal nsC (List.replicate nsC.length none))::R::R₂::aa2 acc #[]::L)→
   CP w A (.compStart (LC elt target iter ifs scope pos) 0 it (.ref acc) cenv) (fun J s4'=>∃ m L',aa0 s4' (aa1 cenv.locals m::L')∧∀ s5,aa0 s5 L'→Q (.ref acc) s5) s3) s₁) s)
  (chk:acT scope nsC csC gsC=true:=by rfl) (hlen:csC.length=asC.length:=by rfl) (hs:∀ x,foldedSetIterable iter env x=pure x:=by intro _; rfl):WP w A (eval (LC elt target iter ifs scope pos) env) Q s:=by
 simp only[eval_ListComp]
 exact aq2 (use:=none) chk F hlen C.at' C.kind hs h
theorem ahj {x:Str}{pos' spos:Pos}{Q:Flow→Shared→Prop}(i:Nat) (F:aa8 env ns gs) (C:aap env .cell csC asC) (nsC gsC:List Str)
  (h:WP w A (eval iter env) (fun x' s₁=>WP w A (pyIter x') (fun it s₂=>∃ R R₂ L,aa0 s₂ (R::R₂::L)∧∀ cenv acc s3,aa8 cenv nsC gsC→aap cenv .cell csC asC→aa0 s3 (aa1 cenv.locals (aal nsC (List.replicate nsC.length none))::R::R₂::aa2 acc #[]::L)→
   CP w A (.compStart (LC elt target iter ifs scope pos) 0 it (.ref acc) cenv) (fun J s4'=>∃ m L',aa0 s4' (aa1 cenv.locals m::L') ∧
    WP w A (storeName env x (.ref acc)) (fun J s6=>∃ m2' L2,aa0 s6 (aa1 cenv.locals m2'::L2)∧∀ s7,aa0 s7 L2→Q .next s7) s4') s3) s₁) s)
  (chk:acT scope nsC csC gsC=true:=by rfl) (hx:ns[i]? = some x:=by rfl) (hl:(pos'.line==pos.line&&!(scope.names.any fun (n,k)=>n==x&&(k==.local||k==.cell)))=true:=by rfl) (hlen:csC.length=asC.length:=by rfl)
  (hs:∀ x,foldedSetIterable iter env x=pure x:=by intro _; rfl):WP w A (exec (.Assign [.Name x pos'] (LC elt target iter ifs scope pos) spos) env) Q s:=by
 have hsw:swapsWith (LC elt target iter ifs scope pos) (some (.Name x pos')) spos.line env=pure true:=by
  show (pure (env.blockKind==.function&&env.kindOf x==some .local&&pos'.line==(LC elt target iter ifs scope pos).pos.line&&!(scope.names.any fun (n,k)=>n==x&&(k==.local||k==.cell))):Sem Bool)=pure true
  rw[F.block,F.loc i x hx]
  exact congrArg pure (by simpa [show (LC elt target iter ifs scope pos).pos=pos from rfl] using hl)
 rw[exec_Assign_Name_used _ _ _ _ hsw]
 refine .bind (.stand (.bind ?_))
 show WP w A (comprehension (LC elt target iter ifs scope pos) scope env iter.pos (newList []) false (eval iter env) (some (assign (.Name x pos') env)) >>= fun J=>pure ()) _ s
 refine .bind (aq2 (use:=some (assign (.Name x pos') env)) (Q:=fun J s'=>WP w A (pure ()) (fun J s'=>WP w A (pure .next) Q s') s') chk F hlen C.at' C.kind hs (h.mono fun x' s₁ h1'=>h1'.mono fun it s₂ h2''=>?_))
 obtain⟨R,R₂,L,H,hC⟩:=h2''
 refine⟨R,R₂,L,H,fun cenv acc s3 Fc Cc H3'=>⟨abl (hC cenv acc s3 Fc Cc H3').go fun r s4' q=>?_⟩⟩
 cases r with
 | error e=>exact q
 | ok f=>
  obtain⟨m,L',H4',q⟩:=q
  exact⟨m,L',H4',ajf (q.mono fun J s6 ⟨m2',L2,H6,q⟩=>⟨m2',L2,H6,fun s7 H7'=>.pure (.pure (q s7 H7'))⟩)⟩
end
section
variable {α β σ:Type}{w:World}{A:Around}{s:Shared}{L:List Res}
theorem aa0.updN {s s':Shared}{M N K:List Res}(H:aa0 s (K++(M++L))) (k:Chg (aae M) (aae N) s s'):aa0 s' (K++(N++L)):=by
 have h0:aa0 s (M++(K++L)):=by
  obtain⟨h1,h2⟩:=H
  obtain⟨a,b,c⟩:=aaf.append.mp h2
  obtain⟨d,e,f⟩:=aaf.append.mp b
  exact⟨h1.perm fun R m=>by simp only[List.mem_append] at m ⊢; rcases m with m | m | m<;>simp[m],aaf.append.mpr ⟨d,aaf.append.mpr ⟨a,e,fun R m R' m'=>c R m R' (List.mem_append_right _ m')⟩,fun R m R' m'=>by
   rcases List.mem_append.mp m' with m' | m'
   ·exact (c R' m' R (List.mem_append_left _ m)).symm
   ·exact f R m R' m'⟩⟩
 have h1:aa0 s' (N++(K++L)):=aa0.sep.mp ((aa0.sep.mpr h0).upd k)
 obtain⟨h1,h2⟩:=h1
 obtain⟨a,b,c⟩:=aaf.append.mp h2
 obtain⟨d,e,f⟩:=aaf.append.mp b
 exact⟨h1.perm fun R m=>by simp only[List.mem_append] at m ⊢; rcases m with m | m | m<;>simp[m],aaf.append.mpr ⟨d,aaf.append.mpr ⟨a,e,fun R m R' m'=>c R m R' (List.mem_append_right _ m')⟩,fun R m R' m'=>by
  rcases List.mem_append.mp m' with m' | m'
  ·exact (c R' m' R (List.mem_append_left _ m)).symm
  ·exact f R m R' m'⟩⟩
theorem aa0.mid {s:Shared}{L:List Res}(K M:List Res) (H:aa0 s (K++(M++L))):aaf s M:=(aaf.append.mp (aaf.append.mp H.2).2.1).1
theorem ao5 {a g gs R R'}{L L':List Res}{s s':Shared}{h':Heap}(hs:aaf s (aak a g false gs::R::L)) (k:Chg (aae (R::L)) (aae (R'::L')) (s.setGen g .running) s') (hk:∀ b o,s'.heap.get? b=some o→h'.get? b=some o) :
  Chg (aae (aak a g false gs::R::L)) (aae (aak a g false .finished::R'::L')) s { s'.setGen g .finished with heap:=h' }:=by
 have k2:=adI (gs':=.finished) (z':=false) hs k
 exact⟨⟨fun c o hc e=>hk c o (k2.kept.heap c o hc e),k2.kept.gens,k2.kept.os⟩,k2.new,(aae _).loc _ _ k2.p (fun c o J e=>hk c o e) (fun J J=>rfl) rfl,k2.fp,k2.gp⟩
noncomputable def abz (f1 f:α→β):List α→List β
 | []=>[]
 | o::os=>f1 o::os.map f
theorem aeW {S1:abi α σ}{S2:abi β σ}{fs0:List Frame}(f1 f:α→β) (hSh:S1.Sh=S2.Sh) (hview:∀ o v M R RY,S1.view o v R RY→S2.view (f1 o) v (aae (M++[R])) RY) {Fr:Res}{a:Addr}{g:Nat}{cF:Code}{k':Result→Sem PySem.Fin}{l:List Value}{p:Pos}{d u d₂ u₂:Nat}{rest:List β}
  (hfs:splitAtGen (.ret k' none false l cF p []::fs0)=none) (hfg:(.ret k' none false l cF p []::fs0:List Frame).any Frame.guarded=false)
  (hr:∀ A,aah A d₂ u₂→aah (A.over (cY a) (.ret k' none false l cF p []::fs0)) (d+1) (u+1)) :
  ∀ os gs R,aaq w d u S1 os gs R→∀ A,aah A d₂ u₂→∀ R0' x0' x1' s0 s L,abq L→aa0 s (aa5 w (aae [R0',S2.Sh x0']).fp (aae [R0',S2.Sh x0']).gp s0::Fr::aak a g false gs::R::S2.Sh x1'::L)→
   (∀ o os',os=o::os'→∀ v RY y,S1.out o x1' v RY y→S2.out (f1 o) x0' v RY y)→
   (os=[]→∀ x' s' ,S1.fin x1' x'→aa0 s' (aa5 w (aae [R0',S2.Sh x0']).fp (aae [R0',S2.Sh x0']).gp s0::Fr::S2.Sh x'::L)→GP w A cF fs0 (k' (.ok (.ret .none))) (PR S2 rest R0' x0' s0) (PY w d₂ u₂ S2 rest R0' x0' s0) s')→
   (∀ o os',os=o::os'→∀ gs R,aaq w d u S1 os' gs R→∀ A,aah A d₂ u₂→∀ R0' x s0 s L,abq L→aa0 s (aa5 w (aae [R0',S2.Sh x]).fp (aae [R0',S2.Sh x]).gp s0::Fr::aak a g false gs::R::S2.Sh x::L)→
    GP w A (cY a) (.ret k' none false l cF p []::fs0) ((model pw w).den (cY a)) (PR S2 (os'.map f++rest) R0' x s0) (PY w d₂ u₂ S2 (os'.map f++rest) R0' x s0) s)→
   GP w A (cY a) (.ret k' none false l cF p []::fs0) ((model pw w).den (cY a)) (PR S2 (abz f1 f os++rest) R0' x0' s0) (PY w d₂ u₂ S2 (abz f1 f os++rest) R0' x0' s0) s:=by
 intro os gs R G A r R0' x0' x1' s0 s L hL H hout hend hcont
 have r':=hr A r
 have hs:aaf s [aak a g false gs,R,S1.Sh x1']:=by
  rw[hSh]
  exact aa0.mid [_,_] _ H
 have hfx:freeK (S1.Sh x1'):=by rw[hSh]; exact H.freeK [] [_,_,_]
 cases os with
 | nil=>
  exists gYF hfs hfg (anm r'.handled H.bs0.nolimit r'.lt hs.1.1 hs.1.2 (G.2 _ ((r'.mono (Nat.le_succ _) (Nat.le_refl _)).in1) x1' _ H.bs0 (acH hs) hfx) (fun J J J z=>z.elim) ?_)
  rintro s' ⟨R',x',hn,_,hx,k⟩ h' e hk he
  refine⟨e,rfl,he,aeq _ ?_⟩
  have k2:=ao5 hs k hk
  rw[hSh] at k2
  have H2:=aa0.updN (K:=[aa5 w (aae [R0',S2.Sh x0']).fp (aae [R0',S2.Sh x0']).gp s0,Fr]) (M:=[aak a g false gs,R,S2.Sh x1']) (N:=[aak a g false .finished,R',S2.Sh x']) H k2
  have H3:=H2.drop [_,_] (R:=aak a g false .finished) fun g' x' e1 e2=>by
   have:=(H2.at [_,_]).2
   rw[show g'=g from e1,this] at e2
   cases e2; rfl
  exact hend rfl x' _ hx (H3.drop [_,_] (R:=R') fun g' x' e1 e2=>(hn.1 g' e1).elim)
 | cons o os=>
  exists gYF hfs hfg (anm r'.handled H.bs0.nolimit r'.lt hs.1.1 hs.1.2 (G.2 _ ((r'.mono (Nat.le_succ _) (Nat.le_refl _)).in1) x1' _ H.bs0 (acH hs) hfx) ?_ fun J z=>z.elim)
  rintro v gs' s' ⟨R',RY,y,ho,hv,hG,k⟩
  have k2:=adI (gs':=gs') (z':=false) hs k
  rw[hSh] at k2
  have H2:=aa0.updN (K:=[aa5 w (aae [R0',S2.Sh x0']).fp (aae [R0',S2.Sh x0']).gp s0,Fr]) (M:=[aak a g false gs,R,S2.Sh x1']) (N:=[aak a g false gs',R',RY,S2.Sh y]) H k2
  refine⟨v,g,rfl,(H2.at [_,_]).1,fun h' hsb hg' gsO hres=>?_⟩
  have H3:=H2.updAt [_,_] (R':=aak a g true gs') (s':={ s'.setGen g gs' with heap:=h' }) ⟨⟨fun b o hb e=>(hsb.2 b hb).trans e,fun J J J=>rfl,rfl⟩,fun g' x' e1 hc hn=>by
   rcases hc with hc | hc
   ·exact absurd (show g'<(s'.setGen g gs').gens.size from (Array.getElem?_eq_some_iff.mp e1).1) (Nat.not_lt.mpr hc)
   ·exact absurd hc hn,⟨hg',(H2.at [_,_]).2⟩,fun b e=>.inl e,fun b e=>.inl e⟩
  have H5:aa0 _ (_::aae [aae [Fr,aak a g true gs',R'],RY,S2.Sh y]::L):=aa0.fold (M:=L) [aae [Fr,aak a g true gs',R'],RY,S2.Sh y] ((H3.fold (L:=[Fr,aak a g true gs',R']) (M:=RY::S2.Sh y::L)))
  refine⟨aae [Fr,aak a g true gs',R'],RY,y,hout _ _ rfl _ _ _ ho,hview _ _ [_,_] _ _ hv,aaq.of (((H3.fold (L:=[Fr,aak a g true gs',R']) (M:=RY::S2.Sh y::L))).freeK [] []) fun A' rA x' s3 HH=>?_,H5.turn hL⟩
  have HH2:aa0 s3 ([aae [Fr,aak a g true gs',R']]++(aa5 w (aae [aae [Fr,aak a g true gs',R'],S2.Sh x']).fp (aae [aae [Fr,aak a g true gs',R'],S2.Sh x']).gp s3::[S2.Sh x'])):=HH.front [_]
  have HH3:aa0 s3 ([Fr,aak a g true gs',R']++(aa5 w (aae [aae [Fr,aak a g true gs',R'],S2.Sh x']).fp (aae [aae [Fr,aak a g true gs',R'],S2.Sh x']).gp s3::[S2.Sh x'])):=aa0.sep.mp HH2
  have HH4:=HH3.front [_,_,_]
  refine hres A' _ _ s3 (HH4.at [_,_]).1 fun h'' hsb' hg''=>?_
  have HH5:=HH4.updAt [_,_] (R':=aak a g false gs') (s':={ s3 with heap:=h'' }) ⟨⟨fun b o hb e=>(hsb'.2 b hb).trans e,fun J J J=>rfl,rfl⟩,fun g' x' e1 hc hn=>by
   rcases hc with hc | hc
   ·exact absurd (show g'<s3.gens.size from (Array.getElem?_eq_some_iff.mp e1).1) (Nat.not_lt.mpr hc)
   ·exact absurd hc hn,⟨hg'',(HH4.at [_,_]).2⟩,fun b e=>.inl e,fun b e=>.inl e⟩
  exact hcont o os rfl gs' R' hG A' rA _ x' s3 _ [] trivial HH5
theorem ajo {S1:abi α σ}{S2:abi β σ}{fs0:List Frame}(f:α→β) (hSh:S1.Sh=S2.Sh) (hview:∀ o v M R RY,S1.view o v R RY→S2.view (f o) v (aae (M++[R])) RY) {Fr:Res}{a:Addr}{g:Nat}{cF:Code}{k':Result→Sem PySem.Fin}{l:List Value}{p:Pos}{d u d₂ u₂:Nat}{rest:List β}
  (hfs:splitAtGen (.ret k' none false l cF p []::fs0)=none) (hfg:(.ret k' none false l cF p []::fs0:List Frame).any Frame.guarded=false)
  (hr:∀ A,aah A d₂ u₂→aah (A.over (cY a) (.ret k' none false l cF p []::fs0)) (d+1) (u+1))
  (hout:∀ o x v RY y,S1.out o x v RY y→S2.out (f o) x v RY y)
  (hend:∀ A,aah A d₂ u₂→∀ R0' x x' s0 s L,S1.fin x x'→abq L→aa0 s (aa5 w (aae [R0',S2.Sh x]).fp (aae [R0',S2.Sh x]).gp s0::Fr::S2.Sh x'::L)→GP w A cF fs0 (k' (.ok (.ret .none))) (PR S2 rest R0' x s0) (PY w d₂ u₂ S2 rest R0' x s0) s) :
  ∀ os gs R,aaq w d u S1 os gs R→∀ A,aah A d₂ u₂→∀ R0' x s0 s L,abq L→aa0 s (aa5 w (aae [R0',S2.Sh x]).fp (aae [R0',S2.Sh x]).gp s0::Fr::aak a g false gs::R::S2.Sh x::L)→
    GP w A (cY a) (.ret k' none false l cF p []::fs0) ((model pw w).den (cY a)) (PR S2 (os.map f++rest) R0' x s0) (PY w d₂ u₂ S2 (os.map f++rest) R0' x s0) s:=by
 intro os
 induction os with
 | nil=>exact fun gs R G A r R0' x s0 s L hL H=>aeW (os:=[]) f f hSh hview hfs hfg hr gs R G A r R0' x x s0 s L hL H (fun o J J v RY y=>hout o x v RY y) (fun J x' s' hx H=>hend A r R0' x x' s0 s' L hx hL H) (fun o os' e=>nomatch e)
 | cons o os ih=>exact fun gs R G A r R0' x s0 s L hL H=>aeW (os:=o::os) f f hSh hview hfs hfg hr gs R G A r R0' x x s0 s L hL H (fun o J J v RY y=>hout o x v RY y) (fun e=>nomatch e) (fun o' os' e=>by cases e; exact ih)
theorem ahq {S1:abi α σ}{S2:abi β σ}(f:α→β) (hSh:S1.Sh=S2.Sh) (hout:∀ o x v RY y,S1.out o x v RY y→S2.out (f o) x v RY y) (hview:∀ o v M R RY,S1.view o v R RY→S2.view (f o) v (aae (M++[R])) RY) {Fr:Res}{a:Addr}{g:Nat}{cF:Code}{k':Result→Sem PySem.Fin}{l:List Value}{p:Pos}{d u d₂ u₂:Nat}{rest:List β}
  (hr:∀ A,aah A d₂ u₂→aah (A.over (cY a) [.ret k' none false l cF p []]) (d+1) (u+1))
  (hend:∀ A,aah A d₂ u₂→∀ R0' x x' s0 s L,S1.fin x x'→abq L→aa0 s (aa5 w (aae [R0',S2.Sh x]).fp (aae [R0',S2.Sh x]).gp s0::Fr::S2.Sh x'::L)→GP w A cF [] (k' (.ok (.ret .none))) (PR S2 rest R0' x s0) (PY w d₂ u₂ S2 rest R0' x s0) s) :
  ∀ os gs R,aaq w d u S1 os gs R→∀ A,aah A d₂ u₂→∀ R0' x s0 s L,abq L→aa0 s (aa5 w (aae [R0',S2.Sh x]).fp (aae [R0',S2.Sh x]).gp s0::Fr::aak a g false gs::R::S2.Sh x::L)→
   GP w A (cY a) [.ret k' none false l cF p []] ((model pw w).den (cY a)) (PR S2 (os.map f++rest) R0' x s0) (PY w d₂ u₂ S2 (os.map f++rest) R0' x s0) s:=ajo (fs0:=[]) f hSh hview rfl rfl hr hout hend
end
section
variable {w:World}{A:Around}{s:Shared}{env:Env}{L:List Res}
theorem ak7 {l:Addr}{vs:List Value}{Q:List Value→Shared→Prop}(M:List Res) (H:aa0 s (M++aa2 l vs.toArray::L)) (hn:vs.length≤1000) (h:∀ s',aa0 s' (M++aa2 l vs.toArray::L)→Q vs s'):WP w A (collect (.ref l)) Q s:=
 .of (collect_list (H.at M).isList (h _ (H.keep (aaO (fun b o e=>((Heap.SameBut.update ..).2 b (Nat.ne_of_lt (Heap.lt_size e))).trans (Heap.get?_push_of_some _ e)) _))) (Nat.le_trans hn aan))
theorem agg {l:Addr}{items:Array Value}{Q:Bool→Shared→Prop}(hl:s.heap.IsList l items) (h:Q false s):WP w A (notIterableAtAll (.ref l)) Q s:=by
 refine .of ?_
 refine wpAny_bind (wpAny_specialOf hl.typeIs slot_list_iter.lookup ?_)
 exact wpAny_pure h
theorem ah0 {e:Expr}{p pos:Pos}{rest:List Expr}{Q:List Value→Shared→Prop}
  (h:WP w A (eval e env) (fun v s₁=>∃ l vs M L,v=.ref l∧aa0 s₁ (M++aa2 l vs.toArray::L)∧vs.length≤1000∧∀ s₂,aa0 s₂ (M++aa2 l vs.toArray::L)→WP w A (spliced (backTo pos (starEach rest env))) (fun us s3=>Q (vs++us) s3) s₂) s) :
  WP w A (spliced (backTo pos (starEach (.Starred e p::rest) env))) Q s:=by
 show WP w A (spliced ((true,(do let v ← eval e env; standAt pos; pure v))::backTo pos (starEach rest env))) Q s
 refine .bind (.bind (h.mono fun v s₁ x=>.bind (.stand (.pure ?_))))
 obtain⟨l,vs,M,L,rfl,H,hn,hQ⟩:=x
 refine .bind (agg (H.at M).isList ?_)
 refine .bind (ak7 M H hn fun s₂ H2'=>?_)
 exact .bind (.hold ((hQ s₂ H2').mono fun us s3 x=>.pure x))
end
section
variable {α σ:Type}{w:World}{A:Around}{s s0:Shared}{L:List Res}{S:abi α σ}{d u:Nat}{fp:Addr→Prop}{gp:Nat→Prop}{R₁:Res}
theorem aqE {elts:List Expr}{k:Nat}{p:Pos}{a:Addr}{g:Nat}{z:Bool}{v:Value}{Q:Unit→Shared→Prop}(hg:aei s.heap a g z) (h:Q () s):WP w A (letOwnedTupleGo (.Tuple elts k p) (.ref a) v) Q s:=by
 obtain⟨o,nm,qn,ho,hc,hd,_⟩:=hg
 unfold letOwnedTupleGo
 cases v with
 | ref b=>
  refine .bind (.of (wpAny_load ho ?_))
  rw[hc,hd]
  exact⟨aag h⟩
 | _=>exact .pure h
theorem amD {a g gs R x o os}{Q:Option Value→Shared→Prop}(K:List Res) (r:aah A (d+1) (u+1)) (G:aaq w d u S (o::os) gs R) (H:aa0 s (R₁::aa5 w fp gp s0::(K++([aak a g false gs,R,S.Sh x]++L))))
  (h:∀ v gs' R' RY y s',S.out o x v RY y→S.view o v R' RY→aaq w d u S os gs' R'→aa0 s' (R₁::aa5 w fp gp s0::(K++([aak a g false gs',R',RY,S.Sh y]++L)))→Q (some v) s'):WP w A (pyNext (.ref a)) Q s:=by
 have hs:aaf s [aak a g false gs,R,S.Sh x]:=by
  have h0:aaf s ((R₁::aa5 w fp gp s0::K)++([aak a g false gs,R,S.Sh x]++L)):=H.2
  exact (aaf.append.mp (aaf.append.mp h0).2.1).1
 have hf:freeK (S.Sh x):=by
  have H':aa0 s ([R₁]++aa5 w fp gp s0::((K++[aak a g false gs,R])++S.Sh x::L)):=by simpa using H
  exact H'.freeK [R₁] _
 exact akk r H.bs G hs hf fun v gs' R' RY y s' ho hv hG k=>h v gs' R' RY y s' ho hv hG (aa0.updN (K:=R₁::aa5 w fp gp s0::K) H k)
theorem aeH {a g gs R x o os}{Q:Option Value→Shared→Prop}(K:List Res) (r:aah A (d+1) (u+1)) (G:aaq w d u S (o::os) gs R) (H:aa0 s (R₁::aa5 w fp gp s0::(K++([aak a g false gs,R,S.Sh x]++L))))
  (h:∀ v gs' R' RY y s',S.out o x v RY y→aaq w d u S os gs' R'→aa0 s' (R₁::aa5 w fp gp s0::(K++([aak a g false gs',R',RY,S.Sh y]++L)))→Q (some v) s'):WP w A (pyNext (.ref a)) Q s:=
 amD K r G H fun v gs' R' RY y s' ho J hG H'=>h v gs' R' RY y s' ho hG H'
theorem ajY {a g gs R x}{Q:Option Value→Shared→Prop}(K:List Res) (r:aah A (d+1) (u+1)) (G:aaq w d u S [] gs R) (H:aa0 s (R₁::aa5 w fp gp s0::(K++([aak a g false gs,R,S.Sh x]++L))))
  (h:∀ s' x',S.fin x x'→aa0 s' (R₁::aa5 w fp gp s0::(K++S.Sh x'::L))→Q none s'):WP w A (pyNext (.ref a)) Q s:=by
 have hs:aaf s [aak a g false gs,R,S.Sh x]:=by
  have h0:aaf s ((R₁::aa5 w fp gp s0::K)++([aak a g false gs,R,S.Sh x]++L)):=H.2
  exact (aaf.append.mp (aaf.append.mp h0).2.1).1
 have hf:freeK (S.Sh x):=by
  have H':aa0 s ([R₁]++aa5 w fp gp s0::((K++[aak a g false gs,R])++S.Sh x::L)):=by simpa using H
  exact H'.freeK [R₁] _
 exists ahK r H.bs G hs hf fun R' x' s' hn J hx k=>?_
 have H2:aa0 s' ((R₁::aa5 w fp gp s0::K)++([aak a g false .finished,R',S.Sh x']++L)):=aa0.updN (K:=R₁::aa5 w fp gp s0::K) H k
 have H3:=H2.drop (R₁::aa5 w fp gp s0::K) (R:=aak a g false .finished) fun g' y e1 e2=>by
  have:=(H2.at (R₁::aa5 w fp gp s0::K)).2
  simp only[show g'=g from e1,this] at e2
  cases e2; rfl
 exact h s' x' hx (H3.drop (R₁::aa5 w fp gp s0::K) (R:=R') fun g' y e1 e2=>(hn.1 g' e1).elim)
theorem agB {a g gs R x}{Q:Option Value→Shared→Prop}(K:List Res) (r:aah A (d+1) (u+1)) (G:aaq w d u S [] gs R) (H:aa0 s (R₁::aa5 w fp gp s0::(K++([aak a g false gs,R,S.Sh x]++L))))
  (h:∀ s',aa0 s' (R₁::aa5 w fp gp s0::(K++S.Sh x::L))→Q none s') (hfin:∀ x',S.fin x x'→x'=x:=by exact fun J h=>h):WP w A (pyNext (.ref a)) Q s:=
 ajY K r G H fun s' x' hx H2=>by
  have e:=hfin x' hx
  rw[e] at H2
  exact h s' H2
theorem acB {env:Env}{ns gs:List Str}{fd:FuncData}{f:Addr}{x np pos e rest}{Q:Value→Shared→Prop}(j i:Nat) (F:aa8 env ns gs) (hobj:∀ P,∃ o,(f,o)∈K P∧o.data=.func fd) (H:aa0 s (R₁::aa5 w fp gp s0::L))
  (h:WP w A (spliced (backTo pos (starEach (e::rest) env))) (qCg w A (.ref f) Q) s)
  (hx:gs[j]? = some x:=by rfl) (hg:gl[i]? = some (x,.ref f):=by rfl) (he:starEach (e::rest) env=(false,eval e env)::starEach rest env:=by rfl) :
  WP w A (eval (.Call (.Name x np) (e::rest) [] pos) env) Q s:=by
 exists aeT (dG j i F H.bs ?_ hx hg)
 obtain⟨o,hoK,hod⟩:=hobj w.params
 refine abY (o:=o) (fd:=fd) ?_
 rw[he] at h ⊢
 exact aaG (h.mono fun vs s₁ ⟨b,h1'⟩=>⟨⟨b.k _ hoK,hod⟩,h1'⟩)
end
noncomputable def aeA:Nat→List Res→Res
 | _,[]=>emp
 | 0,a::_=>a
 | i+1,_::l=>aeA i l
noncomputable def abV:Nat→List Res→List Res
 | 0,l=>l
 | _+1,[]=>[]
 | i+1,_::l=>abV i l
noncomputable def ac4:List Nat→List Res→List Res
 | [],_=>[]
 | i::is,L=>aeA i L::ac4 is L
noncomputable def ac7:List Res→List Res→List Res
 | [],M=>M
 | a::l,M=>a::ac7 l M
theorem ama:∀ (l M:List Res),ac7 l M=l++M:=by
 intro xX
 induction xX with
 | nil=>exact @fun J=>rfl
 | cons a l ih=>exact @fun M=>congrArg (a::·) (ih M)
theorem afw:∀ (n:Nat) (l:List Res),abV n l=l.drop n
 | 0,l=>rfl
 | _+1,[]=>rfl
 | n+1,_::l=>afw n l
theorem aiX:∀ (n:Nat) (l:List Res),aeA n l=l.getD n emp
 | n,[]=>by simp[aeA]
 | 0,a::l=>rfl
 | n+1,a::l=>by simp[aeA,aiX n l]
theorem alT:∀ (is:List Nat) (l:List Res),ac4 is l=is.map fun i=>l.getD i emp:=by
 intro xX
 induction xX with
 | nil=>exact @fun J=>rfl
 | cons i is ih=>refine @fun l=>?_; simp[ac4,ih l,aiX]
theorem aaf.perm {s:Shared}{L M:List Res}(p:L.Perm M):aaf s L→aaf s M:=by
 induction p with
 | nil=>exact id
 | cons x p ih=>exact fun ⟨a,b,c⟩=>⟨a,fun R m=>b R (p.mem_iff.mpr m),ih c⟩
 | swap x y l=>exact fun ⟨a,b,c,d,e⟩=>⟨c,fun R m=>by
   rcases List.mem_cons.mp m with rfl | m
   ·exact (b _ (.head _)).symm
   ·exact d R m,a,fun R m=>b R (.tail _ m),e⟩
 | trans p q ih ih'=>exact fun h=>ih' (ih h)
theorem aa0.perm {s:Shared}{L M:List Res}(H:aa0 s L) (p:L.Perm M):aa0 s M:=⟨H.1.perm fun R m=>p.mem_iff.mp m,H.2.perm p⟩
theorem akf (n:Nat) (L:List Res) (h:n≤L.length):((List.range n).map fun i=>L.getD i Mine.emp)=L.take n:=by
 apply List.ext_getElem
 ·simp; lia
 ·intro i h1 h2
  simp at h1 h2 ⊢
  rw[List.getElem?_eq_getElem (by lia)]; rfl
theorem aa0.pick {s:Shared}{L:List Res}(is:List Nat) (n:Nat) (H:aa0 s L) (hp:is.isPerm (List.range n)=true:=by decide) (hn:n≤L.length:=by exact lb rfl):aa0 s (ac7 (ac4 is L) (abV n L)):=by
 simp only[ama,alT,afw]
 have hp:=List.isPerm_iff.mp hp
 refine H.perm (List.Perm.trans ?_ (((hp.map fun i=>L.getD i Mine.emp).symm.append_right _)))
 rw[akf n L hn,List.take_append_drop]
theorem aa0.cut {s:Shared}{L:List Res}(n:Nat) (H:aa0 s L) (hn:abq (L.take n):=by repeat (first | exact trivial | refine⟨fun J z=>z,?_⟩)):aa0 s (abV n L):=by
 rw[afw]
 have e:L.take n++L.drop n=L:=List.take_append_drop ..
 rw[← e] at H
 generalize L.drop n=M at *
 generalize L.take n=N at *
 clear e
 induction N with
 | nil=>exact H
 | cons R N ih=>exact ih hn.2 (aa0.drop [] H fun g J z J=>(hn.1 g z).elim)
theorem ahU {α β:Type}[BEq α] [LawfulBEq α] {l:List (α × β)}{a:α}{b:β}(h:l.lookup a=some b):(a,b)∈l:=by
 induction l with
 | nil=>cases h
 | cons p r ih=>
  obtain⟨x,y⟩:=p
  simp only[List.lookup] at h
  split at h
  ·rename_i q; cases h; rw[beq_iff_eq.mp q]; exact .head _
  ·exact .tail _ (ih h)
theorem Bs.frag {w:World}{h:Heap}(b:Bs w h):Frag.In (K w.params) h:=fun a o e=>b.k (a,o) (ahU e)
section
variable {α β:Type}{w:World}{A:Around}{s:Shared}{env:Env}{L:List Res}
theorem WP.look {t:Sem β}{r:β}{f:β→Sem α}{Q:α→Shared→Prop}(x:Looks (model pw w) s.heap t r) (h:WP w A (f r) Q s):WP w A (t >>= f) Q s:=.bind (.of (x.here h))
theorem WP.lookR {t:Sem α}{r:α}{Q:α→Shared→Prop}(x:Looks (model pw w) s.heap t r) (h:Q r s):WP w A t Q s:=.of (x.here h)
theorem ac0 {P:Result→Shared→Prop}{id:String}{args:Args}{b:Builtin}(hq:(Code.builtin id args).quiet=true) (hb:entryFor table id=some b)
  (h:wpX (model pw w) A.in1 (checkBuiltinCall id args) (fun J s₁=>wpX (model pw w) (A.under (.builtin id args)) (b args)
   (fun fin s'=>match fin with | .done f=>P (.ok f) s' | .again c'=>c'.quiet=true∧aaA (model pw w) A c' P s') (fun e s'=>P (.error e) s') s₁) (fun e s'=>P (.error e) s') s):aaA (model pw w) A (.call (.builtin id) args) P s:=by
 refine aax ?_
 show wpX _ A.in1 (do checkBuiltinCall id args; again (.builtin id args)) _ _ s
 refine aad (aa4 h (fun J s₁ h1'=>aag (And.intro hq (aax ?_))) fun J J h'=>h')
 show wpX _ _ (match entryFor table id with | some b=>b args | none=>unsupported ((withoutEnding? id "#data").getD id)) _ _ s₁
 rw[hb]; exact h1'
theorem acp {P:Result→Shared→Prop}{id:String}{args:Args}{b:Builtin}(hb:entryFor table id=some b)
  (h:wpX (model pw w) (A.under (.builtin id args)) (b args)
   (fun fin s'=>match fin with | .done f=>P (.ok f) s' | .again c'=>c'.quiet=true∧aaA (model pw w) A c' P s') (fun e s'=>P (.error e) s') s):aaA (model pw w) A (.builtin id args) P s:=by
 refine aax ?_
 show wpX _ _ (match entryFor table id with | some b=>b args | none=>unsupported ((withoutEnding? id "#data").getD id)) _ _ s
 rw[hb]; exact h
noncomputable def aqQ (Q:Value→Shared→Prop) (fin:PySem.Fin) (s':Shared):Prop:=match fin with | .done (.ret v)=>Q v s' | _=>False
theorem apv {Q:Value→Shared→Prop}{t:Sem PySem.Fin}(h:WP w A t (aqQ Q) s) {A':Around}:wpX (model pw w) A t (fun fin s'=>match fin with
   | .done f=>(match (Except.ok f:Result) with | .ok (.ret v)=>Q v s' | .ok _=>False | .error e=>F0 e s')
   | .again c'=>c'.quiet=true∧aaA (model pw w) A' c' (fun r s'=>match r with | .ok (.ret v)=>Q v s' | .ok _=>False | .error e=>F0 e s') s')
   (fun e s'=>match (Except.error e:Result) with | .ok (.ret v)=>Q v s' | .ok _=>False | .error e=>F0 e s') s:=
 aa4 h.go (fun fin s' x=>by
  rcases fin with (_ | _ | _ | _) | _<;>first | exact x | exact x.elim) fun J J x=>x
theorem dBi {id:String}{args:List Value}{kw:List (Str × Value)}{b:Builtin}{Q:Value→Shared→Prop}(hq:(Code.builtin id ⟨args,kw⟩).quiet=true) (hb:entryFor table id=some b)
  (h:WP w A.in1 (checkBuiltinCall id ⟨args,kw⟩) (fun J s₁=>WP w (A.under (.builtin id ⟨args,kw⟩)) (b ⟨args,kw⟩) (aqQ Q) s₁) s):WP w A (call (.builtin id) args kw) Q s:=
 ⟨acm (ac0 hq hb (aa4 h.go (fun J s₁ x=>apv x) fun J J x=>x.elim))⟩
theorem aoX {id:String}{args:List Value}{kw:List (Str × Value)}{b:Builtin}{Q:Value→Shared→Prop}(hb:entryFor table id=some b)
  (h:WP w (A.under (.builtin id ⟨args,kw⟩)) (b ⟨args,kw⟩) (aqQ Q) s):WP w A (runValue (.builtin id ⟨args,kw⟩)) Q s:=
 ⟨adq (acp hb (apv h))⟩
theorem atx {id:String}{args:List Value}{b:Builtin}{Q:Value→Shared→Prop}(hk:builtinKind id=none) (hp:plainId id=true) (hb:entryFor table id=some b) (ha:argsOk id ⟨args,[]⟩)
  (h:WP w A.in1 (b ⟨args,[]⟩) (aqQ Q) s):WP w A (call (.builtin id) args) Q s:=by
 exists dBi (plainId_quiet hp _) hb ?_
 rw[Around.under_plainId hp]
 simp only[checkBuiltinCall,hk]
 cases hsig:Manifest.signature? id with
 | none=>exact .pure h
 | some sig=>
  simp only[argsOk,hsig] at ha
  have h2:Bind.checkArgs id sig ⟨args,[]⟩=pure ():=ha
  show WP w A.in1 (Bind.checkArgs id sig ⟨args,[]⟩) _ s
  simp only[h2]; exact .pure h
section inst
variable {x C f:Addr}{ox:Obj}{od:Option Obj}{v:Value}
theorem aeX {name:Str}{args:List Value}{Q:Option Value→Shared→Prop}(X:Frag.In (K w.params) s.heap) (I:PySem.W.InstAt s.heap x ox C od)
  (hs:findIn (K w.params) (.ref C) name=some (some (.ref f))) (hf:typeIn (K w.params) (.ref f)=some (.type "function")) (h:WP w A (call (.ref f) (.ref x::args)) (fun v=>Q (some v)) s) :
  WP w A (callSpecial? (.ref x) name args) Q s:=by
 refine .bind (.look I.type (.lookR (looks_findIn X hs) ?_))
 exact .hold (.look (bind_fn X _ hf) (.bind (h.mono fun J J z=>.pure z)))
theorem atE {value slice:Expr}{i:Value}{Q:Value→Shared→Prop}(X:Frag.In (K w.params) s.heap) (I:PySem.W.InstAt s.heap x ox C od) (hs:findIn (K w.params) (.ref C) "__getitem__" = some (some (.ref f))) (hf:fnIn (K w.params) f=true) (hfn:typeIn (K w.params) (.ref f)=some (.type "function"))
  (h:WP w A.in1 (call (.ref f) [.ref x,i]) Q s)
  (hsl:subscripted slice true (.ref x) i=runValue (.builtin "lifetime.subscript" ⟨[.ref x,i],[]⟩):=by with_unfolding_all rfl):WP w A (subscriptTail value slice (.ref x) i) Q s:=by
 unfold fnIn at hf
 split at hf
 ·rename_i e
  refine .bind (.bind (.bind (.of (I.type.here ?_))))
  refine .lookR (looks_findIn X hs) ?_
  refine .bind (.of (wpAny_load (X _ _ e) ?_))
  refine .pure ?_
  show WP w A (subscripted slice true (.ref x) i >>= fun r=>(letTemporaryGo value (.ref x) r >>= fun J=>pure r)) Q s
  rw[hsl]
  refine .bind (aoX entry_sub ?_)
  refine .bind (aeX X I hs hfn (h.mono fun v s' z=>?_))
  exact .pure (show WP w A _ Q s' from .bind (.of (wpAny_letTemporaryGo (WP.pure z))))
 ·cases hf
theorem atl {i v:Value}{Q:Unit→Shared→Prop}(X:Frag.In (K w.params) s.heap) (I:PySem.W.InstAt s.heap x ox C od) (hq:noSeq (K w.params) C=true) (hs:findIn (K w.params) (.ref C) "__setitem__" = some (some (.ref f))) (hfn:typeIn (K w.params) (.ref f)=some (.type "function"))
  (h:WP w A (call (.ref f) [.ref x,i,v]) (fun J=>Q ()) s):WP w A (setItem (.ref x) i v) Q s:=by
 refine .hold (.bind (.look I.type ?_))
 refine .look (anyM_none X hq) ?_
 exact (if_pos (show (!false)=true from rfl))▸(.pure (.bind (aeX X I hs hfn (h.mono fun J J z=>.pure z))))
set_option tactic.hygienic true in
theorem au3 {Q:Value→Shared→Prop}(X:Frag.In (K w.params) s.heap) (I:PySem.W.InstAt s.heap x ox C od) (hs:findIn (K w.params) (.ref C) "__len__" = some (some (.ref f))) (hfn:typeIn (K w.params) (.ref f)=some (.type "function"))
  (h:WP w A.in1 (call (.ref f) [.ref x]) (PySem.W.LenBack Q) s):WP w A (call (.builtin "len") [.ref x]) Q s:=by
 exists atx kind_len plain_len entry_len (args_len1 _) ?_
 refine .bind (m:=oneArg "len" _) (.pure ?_)
 refine .bind (m:=callSpecial? (.ref x) (Str.ofString "__len__")) (aeX X I hs hfn (h.mono fun r s' hr=>?_))
 cases r<;>first | exact hr.elim | skip
 rename_i n u
 obtain⟨⟨h0,h1⟩,hq⟩:=hr
 refine .bind (.hold (.pure ?_))
 refine .bind (.of (wpAny_letGo ?_))
 show WP w _ (if n<0 then _ else _) _ _
 rw[if_neg (by lia)]
 show WP w _ (if n≥2 ^ 63 then _ else _) _ _
 rw[if_neg (by lia)]
 exact .bind (.of (wpAny_mkInt (WP.pure hq)))
theorem at3 {name:Str}{expr:Bool}{Q:Value→Shared→Prop}(X:Frag.In (K w.params) s.heap) (I:PySem.W.InstAt s.heap x ox C od) (hga:findIn (K w.params) (.ref C) "__getattribute__" = some (some (.builtin "object.__getattribute__")))
  (hf:findObj (K w.params) C od name=some (.value v)) (hh:handedIn v=true) (h:Q v { s with toks:=s.toks+1 }):WP w A (getAttr (.ref x) name expr) Q s:=.of (get_value X I hga hf hh h)
end inst
end
section
open Builtin Builtin.ObjectAttr
structure atv (P:Params):Prop where
 ga:findIn (K P) (.ref 178) "__getattribute__" = some (some (.builtin "object.__getattribute__"))
 gat:findIn (K P) (.ref 178) "__getattr__" = some none
 sa:findIn (K P) (.ref 178) "__setattr__" = some (some (.builtin "object.__setattr__"))
 init:findIn (K P) (.ref 178) "__init__" = some (some (.ref 78))
 gi:findIn (K P) (.ref 178) "__getitem__" = some (some (.ref 85))
 si:findIn (K P) (.ref 178) "__setitem__" = some (some (.ref 90))
 len:findIn (K P) (.ref 178) "__len__" = some (some (.ref 104))
 items:findIn (K P) (.ref 178) "items" = some (some (.ref 116))
 rows:findIn (K P) (.ref 178) "rows" = some none
 noseq:noSeq (K P) 178=true
 makes:makesIn (K P) 178=true
 over:plainOver (K P) 178=true
 taker:takerIn (K P) 178 "rows" = some none
 has:(clsIn (K P) 178).any (·.hasDict)=true
 f78:typeIn (K P) (.ref 78)=some (.type "function")
 f85:typeIn (K P) (.ref 85)=some (.type "function")
 f90:typeIn (K P) (.ref 90)=some (.type "function")
 f104:typeIn (K P) (.ref 104)=some (.type "function")
 f116:typeIn (K P) (.ref 116)=some (.type "function")
 n85:fnIn (K P) 85=true
theorem adZ (P:Params):atv P where
 ga:=by kernel_rfl
 gat:=by kernel_rfl
 sa:=by kernel_rfl
 init:=by kernel_rfl
 gi:=by kernel_rfl
 si:=by kernel_rfl
 len:=by kernel_rfl
 items:=by kernel_rfl
 rows:=by kernel_rfl
 noseq:=by kernel_rfl
 makes:=by kernel_rfl
 over:=by kernel_rfl
 taker:=by kernel_rfl
 has:=by kernel_rfl
 f78:=by kernel_rfl
 f85:=by kernel_rfl
 f90:=by kernel_rfl
 f104:=by kernel_rfl
 f116:=by kernel_rfl
 n85:=by kernel_rfl
noncomputable def aoB (hs:Int) (tk:Tok) (l:Addr) (n:Nat):Obj:={ cls:=.type "dict",data:=.dict #[⟨hs,.str "rows" tk,.ref l⟩] n }
noncomputable def ah4 (dx l:Addr):Res:=aiM dx (fun h=>∃ hs tk n,h.get? dx=some (aoB hs tk l n)) (fun h ⟨_,_,_,e⟩=>by rw[e]; rfl) fun h h' ⟨hs,tk,n,e⟩ k=>⟨hs,tk,n,k _ e⟩
noncomputable def acG (x C dx:Addr):Res:=aiM x (fun h=>h.get? x=some (instObj C dx)) (fun h e=>by rw[e]; rfl) fun h h' e k=>k _ e
noncomputable def mtR (dx:Addr):Res:=aiM dx (fun h=>h.get? dx=some emptyDict) (fun h e=>by rw[e]; rfl) fun h h' e k=>k _ e
theorem alc (hs:Int) (tk:Tok) (l:Addr) (n:Nat):lookIn "rows" (aoB hs tk l n)=some (some (.ref l)):=by kernel_rfl
theorem aiQ (P:Params) (hs:Int) (tk:Tok) (l:Addr) (n:Nat):findObj (K P) 178 (some (aoB hs tk l n)) "rows" = some (.value (.ref l)):=by kernel_rfl
theorem afo {h:Heap}{x dx l:Addr}{hs tk n}(hx:h.get? x=some (instObj 178 dx)) (hd:h.get? dx=some (aoB hs tk l n)):PySem.W.InstAt h x (instObj 178 dx) 178 (some (aoB hs tk l n)):=⟨hx,rfl,rfl,hd⟩
section
variable {w:World}{A:Around}{s s0:Shared}{env:Env}{L:List Res}{ns gs:List Str}{x dx l:Addr}
theorem acF {value:Expr}{attr:Str}{pos:Pos}{Q:Value→Shared→Prop}(h:WP w A (eval value env) (qAt w A attr Q) s)
  (hb:attributeBase value attr env (eval value env)=eval value env:=by rfl):WP w A (eval (.Attribute value attr pos) env) Q s:=by
 simp only[arm_eval_Attribute,hb]
 exact .bind (h.mono fun o s₁ h1'=>.bind (.stand (.bind (.hold (h1'.mono fun r s₂ h2''=>.bind (.of (wpAny_letTemporaryGo (WP.pure h2''))))))))
theorem adg {Q:Value→Shared→Prop} (B:Bs w s.heap) (hx:s.heap.get? x=some (instObj 178 dx)) (hd:(ah4 dx l).P s) (h:Q (.ref l) { s with toks:=s.toks+1 }):WP w A (getAttr (.ref x) "rows" true) Q s:=by
 obtain⟨hs,tk,n,hd⟩:=hd
 exact at3 B.frag (afo hx hd) (adZ _).ga (aiQ ..) rfl h
set_option tactic.hygienic true in
theorem akl {od od':Obj}{v:Value}{es:List DictEntry}{n:Nat}{Q:Unit→Shared→Prop}(B:Bs w s.heap) (hx:s.heap.get? x=some (instObj 178 dx)) (hd:s.heap.get? dx=some od) (hl:(lookIn "rows" od).isSome=true)
  (e:Obj.putName "rows" (PyData.keyHash w.params "rows") (.str "rows" (s.toks+1)) v od=od') (e':od'=⟨.type "dict",none,.dict es.toArray n,#[]⟩) (hz:es.length≤1000)
  (h:∀ h',Heap.SameBut dx s.heap h'→h'.get? dx=some od'→Q () { s with heap:=h',toks:=s.toks+2 }):WP w A (setAttr (.ref x) "rows" v) Q s:=by
 have X:=B.frag
 have I:PySem.W.InstAt s.heap x (instObj 178 dx) 178 (some od):=⟨hx,rfl,rfl,hd⟩
 refine .of (set_plain X I (adZ _).sa ?_)
 refine osa_open (s:={ s with toks:=s.toks+1 }) X I (adZ _).over (adZ _).taker fun b=>?_
 obtain⟨cd,hc,hd'⟩:=any_some (adZ w.params).has
 have D:=hd
 have D':(s.heap.update dx (Obj.putName "rows" (PyData.keyHash w.params "rows") (.str "rows" (s.toks+1)) v)).get? dx=some od':=by
  rw[Heap.get?_update_self _ hd (by rw[e,e']; rfl),e]
 refine wpAny_bind (wpAny_pure (wpAny_bind (wpAny_bind (wpAny_loadPart hx (wpAny_bind (looks_clsIn X hc _ _ _ _ (fun J J e=>e) ?_))))))
 simp only[hd']
 refine wpAny_pure (a:=some dx) (wpAny_bind (wpAny_pure (wpAny_bind ?_)))
 refine wpAny_bind (wpAny_bind (wpAny_askSetting (wpAny_pure (wpAny_bind (wpAny_mkText (wpAny_bind (wpAny_loadPart D ?_)))))))
 unfold lookIn at hl
 split at hl
 ·rename_i es0 n0' q
  rw[q]
  dsimp only
  have c:(!es0.any (·.key.isStr "rows")&&es0.any (·.refKey))=false:=by
   rw[← Array.any_toList,← Array.any_toList]
   split at hl
   ·rename_i en he
    rw[List.any_eq_true.mpr ⟨en,List.mem_of_find?_eq_some he,List.find?_some he⟩]; rfl
   ·split at hl
    ·cases hl
    ·rename_i z; rw[Bool.not_eq_true] at z; rw[z,Bool.and_false]
  rw[aRefKeyMayBeTheName_at,c]
  refine wpAny_updatePart D ?_
  refine wpAny_bind (wpAny_lookBehind D' (by rw[e']; exact pastItsLine_dict (by rw[List.size_toArray,sizeLine_eq]; lia)) ?_)
  exact wpAny_pure (h _ (Heap.SameBut.update ..) D')
 ·cases hl
theorem ahD {Q:Unit→Shared→Prop}(M:List Res) (B:Bs w s.heap) (H:aa0 s (M++acG x 178 dx::mtR dx::L)) (h:∀ s',aa0 s' (M++acG x 178 dx::ah4 dx l::L)→Q () s'):WP w A (setAttr (.ref x) "rows" (.ref l)) Q s:=by
 have H':aa0 s ((M++[acG x 178 dx])++mtR dx::L):=by simpa using H
 refine akl (es:=[⟨PyData.keyHash w.params "rows",.str "rows" (s.toks+1),.ref l⟩]) (n:=1) B (H.at M) (H'.at _) rfl (by rfl) rfl (lb rfl) fun h' hs hd=>h _ ?_
 have H2:=H'.updAt _ (R':=ah4 dx l) (aaB hs (s.toks+2) rfl rfl rfl rfl ⟨_,_,_,hd⟩)
 simpa using H2
theorem al5 {l':Addr}{Q:Unit→Shared→Prop}(M:List Res) (B:Bs w s.heap) (H:aa0 s (M++acG x 178 dx::ah4 dx l'::L)) (h:∀ s',aa0 s' (M++acG x 178 dx::ah4 dx l::L)→Q () s'):WP w A (setAttr (.ref x) "rows" (.ref l)) Q s:=by
 have H':aa0 s ((M++[acG x 178 dx])++ah4 dx l'::L):=by simpa using H
 obtain⟨hs,tk,n,hd⟩:=H'.at _
 refine akl (es:=[⟨hs,.str "rows" tk,.ref l⟩]) (n:=n) B (H.at M) hd (by rw[alc]; rfl) (by rfl) rfl (lb rfl) fun h' hs hd=>h _ ?_
 simpa using (H'.updAt _ (R':=ah4 dx l) (aaB hs (s.toks+2) rfl rfl rfl rfl ⟨_,_,_,hd⟩))
theorem af7 {o:Expr}{attr:Str}{pos' pos:Pos}{value:Expr}{Q:Flow→Shared→Prop}(h:WP w A (eval value env) (fun v s₁=>WP w A (eval o env) (fun ov s₂=>WP w A (setAttr ov attr v) (fun J=>Q .next) s₂) s₁) s)
  (hs:swapsWith value (some (.Attribute o attr pos')) pos.line env=pure false:=by rfl):WP w A (exec (.Assign [.Attribute o attr pos'] value pos) env) Q s:=by
 rw[plainObj_exec_Assign_Attribute o attr pos' value pos hs]
 refine .bind (.stand (.bind (h.mono fun v s₁ x=>?_)))
 exact .bind (.bind (.hold (x.mono fun ov s₂ x=>.bind (.stand (.bind (.hold (x.mono fun J s3 x=>.release (.pure x))))))))
end
noncomputable def as0 (a:Addr) (items:Array Value):Res:=aiM a (fun h=>h.IsList a items) (fun h ⟨o,ho,_⟩=>by rw[ho]; rfl) fun h h' ⟨o,ho,r⟩ k=>⟨o,k _ ho,r⟩
section
variable {w:World}{A:Around}{s s0:Shared}{env:Env}{L:List Res}{ns gs:List Str}
theorem aa0.weak {R R':Res}(M:List Res) (H:aa0 s (M++R::L)) (hp:R.P s→R'.P s) (hf:R'.fp=R.fp:=by rfl) (hg:R.gp=aaD:=by rfl) (hg':R'.gp=aaD:=by rfl):aa0 s (M++R'::L):=
 H.updAt M (.of (fun J J J e=>e) rfl rfl (hp (H.at M)) (fun b e=>.inl ((hf)▸(e))) (fun g z=>by rw[hg] at z; exact z) fun g z=>by rw[hg'] at z; exact z)
theorem abu {value slice:Expr}{t:Addr}{items:Array Value}{k:Nat}{u:Tok}{x:Value}{Q:Value→Shared→Prop}(hl:s.heap.IsList t items) (hx:items[k]? = some x) (hk:k≤1000) (h:Q x s)
  (hs:subscripted slice false (.ref t) (.int k u)=operate [.ref t,.int k u] (getItem (.ref t) (.int k u)):=by with_unfolding_all rfl):WP w A (subscriptTail value slice (.ref t) (.int k u)) Q s:=
 .of (tail_any hl.typeIs slot_list_getitem.lookup (wpAny_getItem_list hl (by exact q18 ‹_›) (by exact q8 ‹_›) (by simpa using hx) h) hs)
theorem arr {t:Addr}{items:Array Value}{k:Nat}{u:Tok}{v:Value}{Q:Unit→Shared→Prop}(M:List Res) (H:aa0 s (M++as0 t items::L)) (hk:k<items.size) (hk2:k≤1000) (h:∀ s',aa0 s' (M++as0 t (items.setIfInBounds k v)::L)→Q () s'):WP w A (setItem (.ref t) (.int k u) v) Q s:=
 .of (wpAny_setItem_list (H.at M) (by exact q18 ‹_›) (by exact q8 ‹_›) (by exact q31 ‹_›) fun h' hl hs=>h _ (H.updAt M (aaB hs s.toks rfl rfl rfl rfl (by simp only[Int.toNat_natCast] at hl; exact hl))))
theorem adm {o i:Expr}{pos' pos:Pos}{value:Expr}{Q:Flow→Shared→Prop}(h:WP w A (eval value env) (fun v s₁=>WP w A (eval o env) (fun ov s₂=>WP w A (eval i env) (fun iv s3=>WP w A (setItem ov iv v) (fun J=>Q .next) s3) s₂) s₁) s)
  (hs:swapsWith value (some (.Subscript o i pos')) pos.line env=pure false:=by rfl):WP w A (exec (.Assign [.Subscript o i pos'] value pos) env) Q s:=by
 rw[exec_Assign_Subscript o i pos' value pos hs]
 refine .bind (.stand (.bind (h.mono fun v s₁ x=>?_)))
 exact .bind (.bind (.hold (x.mono fun ov s₂ x=>.bind (.hold (x.mono fun iv s3 x=>.bind (.stand (.bind (.hold (x.mono fun J s4' x=>.release (.pure x))))))))))
theorem aer {e:Expr}{pos:Pos}{v:Value}{Q:Flow→Shared→Prop}(h:Q .next s):WP w A (dropValue e pos v) Q s:=.of (wpAny_dropValue h)
theorem akT {o:Expr}{name:Str}{apos pos:Pos}{args:List Expr}{Q:Value→Shared→Prop}
  (h:WP w A (eval o env) (fun ov s₁=>∀ pl,WP w A (getMethod ov name pl) (fun fm s₂=>WP w A (callWith pos fm.1 fm.2 (backTo pos (starEach args env)) []) Q s₂) s₁) s)
  (hbase:attributeBase o name env (eval o env)=eval o env:=by rfl)
  (hfew:((backTo pos (starEach args env)).all (fun x=>!x.1)&&(backToKw pos (keywordEach [] env)).all (fun x=>x.1.isSome)
   && decide (args.length+([]:List Keyword).length+(if ([]:List Keyword).isEmpty then 0 else 1)<30))=true:=by rfl)
  (hline:(apos.endLine==pos.line)=true:=by rfl):WP w A (eval (.Call (.Attribute o name apos) args [] pos) env) Q s:=by
 simp only[arm_eval_Call,hbase]
 refine .bind (h.mono fun ov s₁ x=>.bind (.stand ?_))
 have hform:methodCallForm (args.length+([]:List Keyword).length) (backTo pos (starEach args env)) (backToKw pos (keywordEach [] env))=true:=hfew
 have hpos:methodCallPos true o env apos pos=pure pos:=by unfold methodCallPos; simp[hline]
 unfold methodCall
 rw[hform]
 refine .bind (.hold ?_)
 unfold calleeOf
 exact (x _).mono fun fm s₂ x=>.bind (.eq hpos x)
theorem mBi {T id:String}{v:Value}{name:Str}{pl:Sem Bool}{Q:Value × List Value→Shared→Prop}(hT:s.TypeIs v T) (pa:PlainAttrs T) (slot:Slot T name id) (hty:typeOf (.builtin id)=pure (.type "method_descriptor"))
  (hd:∀ a,v=.ref a→∃ o,s.heap.get? a=some o∧o.dict=none) (h:Q (.builtin id,[v]) s):WP w A (getMethod v name pl) Q s:=.of (getMethod_builtin hT pa slot hty hd h)
inductive asY (l:Addr) (Q:Value→Shared→Prop) (v:Value) (s:Shared):Prop
 | mk (M L items):aa0 s (M++aa2 l items::L)→items.size≤1000→(∀ s',aa0 s' (M++aa2 l (items.push v)::L)→Q .none s')→asY l Q v s
inductive asR (w:World) (A:Around) (m:Sem Value) (Q:Value→Shared→Prop) (ov:Value) (s:Shared):Prop
 | mk (l items):ov=.ref l→s.heap.PlainList l items→WP w A m (asY l Q) s→asR w A m Q ov s
theorem alP {o e:Expr}{apos pos:Pos}{Q:Value→Shared→Prop}
  (h:WP w A (eval o env) (asR w A (eval e env) Q) s)
  (hbase:attributeBase o "append" env (eval o env)=eval o env:=by rfl) (he:starEach [e] env=[(false,eval e env)]:=by rfl) (hline:(apos.endLine==pos.line)=true:=by rfl):WP w A (eval (.Call (.Attribute o "append" apos) [e] [] pos) env) Q s:=by
 have hb:backTo pos (starEach [e] env)=[(false,eval e env)]:=by rw[he]; rfl
 exists akT (h.mono fun ov s₁ x pl=>?_) hbase (by rw[hb]; rfl) hline
 obtain⟨l,items,rfl,⟨n,hl⟩,x⟩:=x
 exists mBi (T := "list") ⟨_,hl,rfl⟩ PySem.F.plainAttrs_list slot_list_append type_list_append (fun a e=>by cases e; exact⟨_,hl,rfl⟩) ?_
 rw[hb]
 refine abW rfl (aaG ?_)
 have hsp:[(false,eval e env)] = backTo pos (starEach [e] env):=hb.symm
 rw[hsp]
 exists aa3 (x.mono fun v s₂ x=>aa6 ?_) he
 obtain⟨M,L,items,H,hn,hQ⟩:=x
 exact abE M H hn hQ
end
structure Fz where
 t:Bool
 a:Addr
 items:Array Value
noncomputable def Fz.In (f:Fz) (h:Heap):Prop:=match f.t with | true=>h.IsTuple f.a f.items | false=>h.PlainList f.a f.items
noncomputable def Fz.R (f:Fz):Res:=match f.t with | true=>ac5 f.a f.items | false=>aa2 f.a f.items
theorem Fz.R_gp (f:Fz):f.R.gp=aaD:=by obtain⟨t,a,i⟩:=f; cases t<;>rfl
theorem Fz.R_P (f:Fz) (s:Shared):f.R.P s↔f.In s.heap:=by obtain⟨t,a,i⟩:=f; cases t<;>exact Iff.rfl
noncomputable def FIn (D:List Fz) (h:Heap):Prop:=∀ f∈D,f.In h
noncomputable def fzR (D:List Fz):Res:=aae (D.map Fz.R)
theorem Fz.In.keeps {f:Fz}{h h':Heap}(x:f.In h) (k:∀ a o,h.get? a=some o→h'.get? a=some o):f.In h':=by
 obtain⟨t,a,i⟩:=f
 cases t
 ·obtain⟨n,e⟩:=x; exact⟨n,k _ _ e⟩
 ·obtain⟨o,e,r⟩:=x; exact⟨o,k _ _ e,r⟩
theorem FIn.keeps {D:List Fz}{h h':Heap}(x:FIn D h) (k:∀ a o,h.get? a=some o→h'.get? a=some o):FIn D h':=fun f m=>(x f m).keeps k
theorem aaf.mem' {s:Shared}:∀ {L:List Res},aaf s L→∀ R∈L,R.P s
 | _::_,h,_,.head _=>h.1
 | _::_,h,R,.tail _ m=>aaf.mem' h.2.2 R m
theorem aas {D:List Fz}{s:Shared}(h:(fzR D).P s):FIn D s.heap:=fun f m=>(f.R_P s).mp (aaf.mem' h _ (List.mem_map_of_mem m))
theorem abp (D:List Fz):∀ g,(fzR D).gp g→False:=fun g ⟨R,m,x⟩=>by
 obtain⟨f,_,rfl⟩:=List.mem_map.mp m
 rw[f.R_gp] at x; exact x
mutual
inductive RD (D:List Fz):Value→PyData→Prop
 | none:RD D .none .none
 | int (i t):RD D (.int i t) (.int i)
 | str (x t):RD D (.str x t) (.str x)
 | list {a vs xs}:⟨false,a,vs⟩∈D→RDs D vs.toList xs→RD D (.ref a) (.list xs)
 | tuple {a vs xs}:⟨true,a,vs⟩∈D→RDs D vs.toList xs→RD D (.ref a) (.tuple xs)
inductive RDs (D:List Fz):List Value→List PyData→Prop
 | nil:RDs D [] []
 | cons {v d vs ds}:RD D v d→RDs D vs ds→RDs D (v::vs) (d::ds)
end
theorem RDs.ind {D:List Fz}{P:List Value→List PyData→Prop}(n:P [] []) (c:∀ {v d vs ds},RD D v d→RDs D vs ds→P vs ds→P (v::vs) (d::ds)) {vs:List Value}{ds:List PyData}(h:RDs D vs ds):P vs ds:=
 RDs.rec (motive_1:=fun J J J=>True) (motive_2:=fun vs ds J=>P vs ds) trivial (fun J J=>trivial) (fun J J=>trivial) (fun J J J=>trivial) (fun J J J=>trivial) n (fun a b J ih=>c a b ih) h
theorem RDs.uncons {D:List Fz}{vs:List Value}{d:PyData}{ds:List PyData}(h:RDs D vs (d::ds)):∃ v us,vs=v::us∧RD D v d∧RDs D us ds:=by
 cases h with
 | cons a b=>exact⟨_,_,rfl,a,b⟩
theorem RDs.unnil {D:List Fz}{vs:List Value}(h:RDs D vs []):vs=[]:=by
 cases h with
 | nil=>rfl
section
variable {D D':List Fz}(k:∀ f∈D,f∈D')
include k
theorem RD.mono {v:Value}{d:PyData}(h:RD D v d):RD D' v d:=
 RD.rec (motive_1:=fun v d J=>RD D' v d) (motive_2:=fun v d J=>RDs D' v d) .none .int .str (fun m J=>.list (k _ m)) (fun m J=>.tuple (k _ m)) .nil (fun J J=>.cons) h
theorem RDs.mono {v:List Value}{d:List PyData}(h:RDs D v d):RDs D' v d:=RDs.ind .nil (fun a J=>.cons (a.mono k)) h
end
section
variable {D:List Fz}{h:Heap}(x:FIn D h)
include x
theorem RD.reads {v:Value}{d:PyData}(r:RD D v d):∃ as,Reads h v d as:=
 RD.rec (motive_1:=fun v d J=>∃ as,Reads h v d as) (motive_2:=fun v d J=>∃ as,ReadsAll h v d as) ⟨_,.none⟩ (fun i t=>⟨_,.int i t⟩) (fun i t=>⟨_,.str i t⟩)
  (fun m J ⟨_,e⟩=>(x _ m).elim fun J ho=>⟨_,.list ho rfl rfl e⟩) (fun m J ⟨_,e⟩=>(x _ m).elim fun J ho=>ho.2.2.elim fun J hd=>⟨_,.tuple ho.1 ho.2.1 hd e⟩) ⟨_,.nil⟩ (fun J J ⟨_,e⟩ ⟨_,e'⟩=>⟨_,.cons e e'⟩) r
end
theorem RDs.length {D:List Fz}{v:List Value}{d:List PyData}(h:RDs D v d):v.length=d.length:=RDs.ind (P:=fun v d=>v.length=d.length) rfl (fun J J=>congrArg _) h
theorem RDs.get {D:List Fz}{v:List Value}{d:List PyData}(h:RDs D v d):∀ {i:Nat}{y:PyData},d[i]? = some y→∃ x,v[i]? = some x∧RD D x y:=by
 refine RDs.ind (P:=fun v d=>∀ {i:Nat} {y:PyData},d[i]? = some y→∃ x,v[i]? = some x∧RD D x y) (fun {i y} e=>?_) (fun {_ _ _ _} a _ ih {i y} e=>?_) h
 ·cases e
 ·cases i with
  | zero=>cases e; exact⟨_,rfl,a⟩
  | succ i=>exact ih e
theorem RDs.append {D:List Fz}{v w:List Value}{d e:List PyData}(h:RDs D v d) (k:RDs D w e):RDs D (v++w) (d++e):=RDs.ind (P:=fun v d=>RDs D (v++w) (d++e)) k (fun a J=>.cons a) h
theorem RD.lst {D:List Fz}{v:Value}{xs:List PyData}(h:RD D v (.list xs)):∃ a vs,v=.ref a∧⟨false,a,vs⟩∈D∧RDs D vs.toList xs:=by
 cases h with
 | list m r=>exact⟨_,_,rfl,m,r⟩
theorem RD.tup {D:List Fz}{v:Value}{xs:List PyData}(h:RD D v (.tuple xs)):∃ a vs,v=.ref a∧⟨true,a,vs⟩∈D∧RDs D vs.toList xs:=by
 cases h with
 | tuple m r=>exact⟨_,_,rfl,m,r⟩
theorem RD.inti {D:List Fz}{v:Value}{i:Int}(h:RD D v (.int i)):∃ t,v=.int i t:=by
 cases h with
 | int _ t=>exact⟨t,rfl⟩
section
variable {w:World}{A:Around}{s s0:Shared}{env:Env}{L:List Res}{ns gs:List Str}{R R₁ R₂:Res}
theorem aa0.fzNew (M:List Res) (H:aa0 s (M++L)):aa0 s (M++fzR []::L):=by
 have h:aa0 s (fzR []::(M++L)):=(aa0.sep (L:=[])).mpr H
 exact h.back M
theorem aa0.fzAdd {D:List Fz}(M:List Res) (f:Fz) (H:aa0 s (M++fzR D::f.R::L)):aa0 s (M++fzR (f::D)::L):=by
 have h1:aa0 s (fzR D::(M++f.R::L)):=H.front M
 have h2:aa0 s (D.map Fz.R++(M++f.R::L)):=aa0.sep.mp h1
 have h3:aa0 s ((f::D).map Fz.R++(M++L)):=h2.perm (by
  rw[List.map_cons,List.cons_append,← List.append_assoc,← List.append_assoc]
  exact List.perm_middle)
 exact aa0.back M (aa0.sep.mpr h3)
theorem aa0.fzJoin {D D':List Fz}(M:List Res) (H:aa0 s (M++fzR D::fzR D'::L)):aa0 s (M++fzR (D++D')::L):=by
 have h1:aa0 s (fzR D::(M++fzR D'::L)):=H.front M
 have h2:aa0 s (D.map Fz.R++(M++fzR D'::L)):=aa0.sep.mp h1
 have h3:aa0 s (fzR D'::(D.map Fz.R++(M++L))):=h2.perm (by
  rw[← List.append_assoc,← List.append_assoc]
  exact List.perm_middle)
 have h4:aa0 s (D'.map Fz.R++(D.map Fz.R++(M++L))):=aa0.sep.mp h3
 have h5:aa0 s ((D++D').map Fz.R++(M++L)):=h4.perm (by
  rw[List.map_append,← List.append_assoc]
  exact List.perm_append_comm.append_right _)
 exact aa0.back M (aa0.sep.mpr h5)
theorem adp {value slice:Expr}{t:Addr}{items:Array Value}{k:Nat}{u:Tok}{x:Value}{Q:Value→Shared→Prop}(ht:s.heap.IsTuple t items) (hx:items[k]? = some x) (hk:k≤1000) (h:Q x s)
  (hs:subscripted slice false (.ref t) (.int k u)=operate [.ref t,.int k u] (getItem (.ref t) (.int k u)):=by with_unfolding_all rfl) :
  WP w A (subscriptTail value slice (.ref t) (.int k u)) Q s:=
 .of (tail_any ht.typeIs slot_tuple_getitem.lookup (getItem_tuple ht (by exact q39 ‹_›) (by exact q8 ‹_›) (seqIndex_of (by exact q18 ‹_›) (by have:=(Array.getElem?_eq_some_iff.mp hx).1; exact q31 ‹_›)) (by simpa using hx) h) hs)
theorem aoM {t:Addr}{items:Array Value}{elts:List Expr}{x1}{pos:Pos}{Q:Unit→Shared→Prop}(hh:A.handled=none) (ht:s.heap.IsTuple t items) (H:aa0 s L)
  (h:∀ s',aa0 s' L→WP w A (assignInOrder ((assignEach elts env).map (·.2)) items.toList) Q s')
  (hn:(assignEach elts env).length=items.size:=by rfl) (hstar:(assignEach elts env).findIdx? (·.1)=none:=by rfl):WP w A (assign (.Tuple elts x1 pos) env (.ref t)) Q s:=by
 rw[arm_assign_Tuple]
 refine .bind (.stand ?_)
 unfold unpack
 rw[hn,hstar]
 exact .bind (.hold (.of (unpackItems_tuple hh ht fun J he=>h _ (H.keep (aed he _)))))
theorem aov {t b:Addr}{vs ws:List Value}{Q:Value→Shared→Prop}(H:aa0 s (R::R₂::L)) (ht:s.heap.IsList t vs.toArray) (hb:s.heap.IsList b ws.toArray) (hsz:vs.length+ws.length≤1000)
  (h:∀ s' c,aa0 s' (R::R₂::aa2 c (vs++ws).toArray::L)→Q (.ref c) s'):WP w A (binaryOp .Add (.ref t) (.ref b)) Q s:=by
 obtain⟨dd,n,sl,ho⟩:=aeL ht
 obtain⟨dd2,n2,sl2,ho2⟩:=aeL hb
 have e:vs.toArray++ws.toArray=(vs++ws).toArray:=by simp
 refine .of (concat_meets ⟨_,ho,rfl⟩ ⟨_,ho2,rfl⟩ noFill_list_add seq_list_add PySem.F.slot_list_add PySem.F.entry_list_add (PySem.F.args_list_add_2 _ _)
  (list_addW t b vs.toArray ws.toArray n n2 dd dd2 sl sl2 (by rw[List.size_toArray,List.size_toArray]; exact Nat.le_trans hsz aan)) ⟨ho,ho2,?_⟩)
 rw[e]
 exact h _ _ (H.made (R':=aa2 _ _) (.of (fun J J e=>Heap.get?_push_of_some _ e) rfl rfl ⟨_,Heap.get?_push_size _ rfl⟩ aa9 fun J z=>z))
end
section
variable {w:World}{A:Around}{s s0:Shared}{env:Env}{L:List Res}{ns gs:List Str}{C fI:Addr}{rest:List Value}
theorem ahN {α β:Type}{h:Heap}{g d tk os}{t:Sem α}{r:α}{f:α→Sem β}{Q:β→Shared→Prop}(x:Looks (model pw w) h t r) (q:WP w A (f r) Q ⟨h,g,d,tk,os⟩):WP w A (t >>= f) Q ⟨h,g,d,tk,os⟩:=.bind (.of (x.at q))
theorem abN {f:Value} {args:List Value} {kw:List (Str × Value)} {Q:Value→Shared→Prop} (h:aaA (model pw w) A (.call f ⟨args,kw⟩) (fun r s'=>match r with | .ok (.ret v)=>Q v s' | .ok _=>False | .error e=>F0 e s') s):WP w A (call f args kw) Q s:=⟨acm h⟩
theorem apX {Q:Value→Shared→Prop}(B:Bs w s.heap) (hm:makesIn (K w.params) C=true) (hi:findIn (K w.params) (.ref C) "__init__" = some (some (.ref fI))) (hf:typeIn (K w.params) (.ref fI)=some (.type "function")) (H:aa0 s L)
  (h:∀ x dx s',aa0 s' (acG x C dx::mtR dx::L)→WP w (A.under (.builtin "type.__call__" ⟨.ref C::rest,[]⟩)) (call (.ref fI) (.ref x::rest)) (fun v s''=>v=.none∧Q (.ref x) s'') s'):WP w A (call (.ref C) rest) Q s:=by
 have X:=B.frag
 have Y:=makes_of (M:=model pw w) X hm
 have Y':=Y
 obtain⟨⟨oc,od,cd,sl,hC,e1,e2,e4⟩,made,base,self,top,call,typ⟩:=Y
 have hm1:acr (mtR s.heap.objs.size) s { s with heap:=s.heap.push emptyDict }:=.of (fun J J e=>Heap.get?_push_of_some _ e) rfl rfl (Heap.get?_push_size _ rfl) aa9 fun J z=>z
 have hsz:(s.heap.push emptyDict).objs.size=s.heap.objs.size+1:=by rw[Heap.size_push]
 have hm2:acr (acG (s.heap.objs.size+1:Nat) C s.heap.objs.size) { s with heap:=s.heap.push emptyDict } { s with heap:=(s.heap.push emptyDict).push (instObj C s.heap.objs.size) }:=
  .of (fun J J e=>Heap.get?_push_of_some _ e) rfl rfl (by
   show ((s.heap.push emptyDict).push (instObj C s.heap.objs.size)).get? (s.heap.objs.size+1)=some _
   rw[← hsz]; exact Heap.get?_push_size _ rfl) (fun a e=>aa9 a (by rw[hsz]; exact e)) fun J z=>z
 obtain⟨hh,g,d,t,os⟩:=s
 exists abN (aax ?_)
 refine WP.go (Q:=fun (fin:PySem.Fin) s'=>match fin with | .done f=>(match (Except.ok f:Result) with | .ok (.ret v)=>Q v s' | .ok _=>False | .error e=>F0 e s') | .again c'=>c'.quiet=true∧aaA (model pw w) A c' (fun r s'=>match r with | .ok (.ret v)=>Q v s' | .ok _=>False | .error e=>F0 e s') s') ?_|>fun z=>aa4 z (fun J J x=>x) fun J J x=>x.elim
 refine .of (nd_load hC ?_)
 show wpAny _ _ (callAny.viaDunder (.ref C) _) _ _ _
 refine wpAny_bind (call.at ?_)
 refine wpAny_bind (wpAny_pure (wpAny_bind (wpAny_pure ?_)))
 refine wpAny_pure (a:=Fin.again (.call (.builtin "type.__call__") ⟨.ref C::rest,[]⟩)) (And.intro rfl ?_)
 refine ac0 (Code.quiet_builtin _ (by decide +kernel)) entry_typeCall (abM (E:=F0) (check_slot tc_kind tc_split typ (tc_args _ _ _) ?_)|>fun z=>aa4 z (fun J J x=>x) fun J J x=>x.elim)
 refine apv ?_
 have hmr:Looks (model pw w) hh (mroOf (.ref C)) cd.mro:=((Looks.ld (part:=none) hC).andThen .now).andThen .now
 refine ahN hmr ?_
 dsimp only
 rw[if_neg (by rw[e4]; decide)]
 refine ahN made ?_
 refine .bind (.pure ?_)
 refine .bind (.hold (abN (adJ (new_K Y' (looks_findIn (M:=model pw w) X hi) (.inl rfl) ?_))))
 have k:∀ b o,hh.get? b=some o→((hh.push emptyDict).push (instObj C hh.objs.size)).get? b=some o:=fun b o e=>Heap.get?_push_of_some _ (Heap.get?_push_of_some _ e)
 have hx:((hh.push emptyDict).push (instObj C hh.objs.size)).get? (hh.objs.size+1)=some (instObj C hh.objs.size):=by heap_get
 have t1:Looks (model pw w) ((hh.push emptyDict).push (instObj C hh.objs.size)) (typeOf (.ref (hh.objs.size+1))) (.ref C):=(Looks.ld hx).andThen .now
 refine .bind (ahN t1 (.of ((self.keeps k).at ?_)))
 refine .bind (.hold (.bind (.bind (.of (t1.at (WP.of (((looks_findIn (M:=model pw w) X hi).keeps k).at ?_)))))))
 refine .hold (ahN ((bind_fn (M:=model pw w) X (.ref (hh.objs.size+1)) hf).keeps k) (.bind ((h _ _ _ ((H.add hm1).add hm2)).mono fun v s' z=>.pure ?_)))
 obtain⟨rfl,z⟩:=z
 exact .pure z
end
section
variable {w:World}{A:Around}{s:Shared}{L:List Res}
theorem ao7 {l:Addr}{items:Array Value}{R R₂:Res}{Q:Value→Shared→Prop}(hl:s.heap.IsTuple l items) (H:aa0 s (R::R₂::L)) (h:∀ s' it,aa0 s' (R::R₂::aiT it l 0::L)→Q (.ref it) s'):WP w A (pyIter (.ref l)) Q s:=
 .of (wpAny_pyIter_tuple hl (h _ _ (H.made (R':=aiT _ l 0) (.of (fun J J e=>Heap.get?_push_of_some _ e) rfl rfl ⟨_,Heap.get?_push_size _ rfl,rfl,rfl⟩ aa9 fun J z=>z))))
end
theorem aah.under {A:Around}{c:Code}{d u dd uu:Nat}(r:aah A (d+dd) (u+uu)) (hw:c.weight=dd) (hu:c.cUnits=uu):aah (A.under c) d u:=
 ⟨r.handled,by show A.depth+c.weight+d≤900; have:=r.depth; lia,by show A.units+c.cUnits+u≤9000; have:=r.units; lia⟩
theorem ajr (C:Addr) (rest:List Value):(Code.builtin "type.__call__" ⟨.ref C::rest,[]⟩).weight=1:=by kernel_rfl
theorem am6 (C:Addr) (rest:List Value):(Code.builtin "type.__call__" ⟨.ref C::rest,[]⟩).cUnits=1:=by kernel_rfl
theorem aah.typeCall {A:Around}{d u:Nat}{C:Addr}{rest:List Value}(r:aah A (d+1) (u+1)):aah (A.under (.builtin "type.__call__" ⟨.ref C::rest,[]⟩)) d u:=aah.under r (ajr C rest) (am6 C rest)
section
variable {w:World}{A:Around}{s:Shared}{L:List Res}
theorem apa {fd:FuncData}{f:Addr}{ns gs:List Str}{body:List Stmt}{args vals:List Value}{vs:List (Option Value)}{Q:Value→Shared→Prop}{d u:Nat}
  (X:Fn fd f ns gs) (r:aah A (d+1) (u+3)) (b:Bs w s.heap) (H:aa0 s L) (hbody:fd.body=.stmts body) (hbind:BindsTo s fd ⟨args,[]⟩ ((ns.take vals.length).zip vals)) (hl:vals.length≤ns.length) (hv:vs=vals.map some++List.replicate (ns.length - vals.length) none)
  (h:∀ A' env s₁,aah A' d u→aa8 env ns gs→aa0 s₁ (aa1 env.locals (aal ns vs)::L)→WP w A' (execs body env) (fun fl s'=>Q (aiv fl) s') s₁)
  (hgen:fd.scope.isGenerator=false:=by rfl):WP w A (call (.ref f) args) Q s:=by
 obtain⟨o,hoK,hod⟩:=X.obj w.params
 have hc:=X.chk
 obtain⟨h1,h2,h3,h4,h5,h6,h7,h8,h9⟩:=anz hc
 refine⟨acm (ada (fd:=fd) (body:=body) r.lt (b.k _ hoK) hod h2 hgen hbody (X.codeRec b) (hbind _ _ _ _ (wpAny_newFunctionEnv (fun x hx e=>by
   have:=h9 x hx
   rw[e] at this; revert this; decide) (fun x hx=>h4 x.1 (List.mem_of_mem_take (List.of_mem_zip hx).1)) (fun h0' hns hsb=>⟨b.nolimit.fresh _ hsb,adb ?_⟩) h1)))⟩
 have hk:∀ b o,s.heap.get? b=some o→h0'.get? b=some o:=fun b o e=>hsb.extBut b o (Nat.ne_of_lt (Heap.lt_size e)) (Heap.get?_push_of_some _ e)
 have m:acr (aa1 s.heap.objs.size (aal ns vs)) s { s with heap:=h0',toks:=s.toks+((ns.take vals.length).zip vals).length }:=.of hk rfl rfl (abh hns fun y=>by
  have e:ns=ns.take vals.length++ns.drop vals.length:=(List.take_append_drop _ _).symm
  simp only[aay (ns.take vals.length) vals (ns.drop vals.length) (List.replicate (ns.length - vals.length) none) y (by rw[← e]; exact h3) (by rw[List.length_take]; lia) (fun z hz=>(List.mem_replicate.mp hz).2),← e,hv]) aa9 fun g z=>z
 refine aa4 (h _ _ _ (r.deeper _) (X.env s.heap.objs.size f) (H.add m)).go (fun fl s' hq=>?_) fun J J x=>x
 cases fl<;>exact hq
end
end
noncomputable def eu:Nat→Int→Int→Int × Int × Int
 | 0,a,_=>(1,0,a)
 | n+1,a,b=>if b=0 then (1,0,a) else ((eu n b (a.fmod b)).2.1,(eu n b (a.fmod b)).1 - a.fdiv b * (eu n b (a.fmod b)).2.1,(eu n b (a.fmod b)).2.2)
theorem ahZ {a b:Int}(h0:0<b) (h1 : -1000≤a) (h2:a≤1000) : -1000000≤a.fdiv b∧a.fdiv b≤1000000:=by
 rw[Int.fdiv_eq_ediv_of_nonneg _ (Int.le_of_lt h0)]
 have e1:a / b≤1000:=by
  rcases Int.lt_or_le a 0 with h | h
  ·have:=Int.ediv_neg_of_neg_of_pos h h0; lia
  ·have:=Int.ediv_le_self b h; lia
 have e2 : -1000≤a / b:=by
  refine (Int.le_ediv_iff_mul_le h0).mpr ?_
  lia
 exact⟨Int.le_trans (by decide) e2,Int.le_trans e1 (by decide)⟩
theorem alg {w:World}:∀ (n:Nat) {A:Around}{s:Shared}{a b:Int}{ta tb:Tok}{Q:Value→Shared→Prop},aah A (n+2) (3 * n+6)→Bs w s.heap→
  0≤b→b.toNat≤n→-1000≤a→a≤1000→b≤1000→
  (∀ s' t x y z,acr (ac5 t #[.int (eu n a b).1 x,.int (eu n a b).2.1 y,.int (eu n a b).2.2 z]) s s'→Q (.ref t) s')→
  WP w A (call (.ref 292) [.int a ta,.int b tb]) Q s:=by
 intro n
 induction n with
 | zero=>
  intro A s a b ta tb Q r B h0 hn ha1 ha2 hb2 h
  obtain rfl:b=0:=by lia
  exists adi (d:=0) (u:=0) (vs:=[some _,some _,none,none,none,none,none]) aqX (r.mono (by exact lb rfl) (by exact lb rfl)) B (aa0.start B) rfl (BindsTo.of_eq (by kernel_rfl)) (lb rfl) rfl fun A' env s₁ r' F H=>?_,0,aa7 ?_,akG F H fun s₁ H=>?_,aa7 ?_,dIf ?_,tLI 1 F H rfl fun s₁ t H=>?_,tEq ?_,aa7 ?_,agD ?_,ael ?_,aa3 ?_,aaW H fun s₁ t H=>?_,aa3 ?_,aaW H fun s₁ t H=>?_,spL 0 F H rfl ?_,aa6 ⟨_,_,_,H,aam,fun s₁ t H=>?_⟩
  exact h _ _ _ _ _ H.out
 | succ n ih=>
  intro A s a b ta tb Q r B h0 hn ha1 ha2 hb2 h
  exists adi (d:=n+2) (u:=3 * n+6) (vs:=[some _,some _,none,none,none,none,none]) aqX (r.mono (by exact q56) (by exact q44)) B (aa0.start B) rfl (BindsTo.of_eq (by kernel_rfl)) (lb rfl) rfl fun A' env s₁ r' F H=>?_,0,aa7 ?_,akG F H fun s₁ H=>?_,0,aa7 ?_,dIf ?_,tLI 1 F H rfl fun s₁ t H=>?_,tEq ?_
  by_cases hz:b=0
  ·subst hz
   exists aa7 ?_,agD ?_,ael ?_,aa3 ?_,aaW H fun s₁ t H=>?_,0,aa3 ?_,aaW H fun s₁ t H=>?_,spL 0 F H rfl ?_,aa6 ⟨_,_,_,H,aam,fun s₁ t H=>?_⟩
   exact h _ _ _ _ _ H.out
  ·refine ifN ((fun x=>hz (of_decide_eq_true x))) ?_
   exists aaL ?_,aa7 ?_,agE ?_,acj 0 6 F aqX H ?_,spL 1 F H rfl ?_,aa3 ?_,abG ?_
   refine dL 0 F H rfl ?_
   exists dL 1 F H rfl ?_
   refine akE H hz fun s₁ tm H=>?_
   exists aa6 ⟨H.bs,?_⟩
   have hm:0≤a.fmod b∧a.fmod b<b:=⟨Int.fmod_nonneg_of_pos _ (by lia),Int.fmod_lt_of_pos _ (by lia)⟩
   refine ih (r'.mono (by lia) (by exact q56)) H.bs hm.1 (by lia) (by lia) (by assumption) (by lia) fun s₂ t x y z m=>?_
   replace H:=H.made m
   exists aqT [_,_] r'.handled H fun s₂ H=>?_,0,aaV ?_,aS 2 F H rfl fun s₂ H=>?_,0,aaV ?_,aS 3 F H rfl fun s₂ H=>?_,0,aaV ?_,aS 4 F H rfl fun s₂ H=>?_,0,aiL ?_,aa7 ?_,adG (aqP 5 6 F) ?_
   refine ael ?_
   exists spL 3 F H rfl ?_,aa3 ?_
   refine abG ?_
   exists dL 2 F H rfl ?_,abG ?_,abG ?_
   refine dL 0 F H rfl ?_
   exists dL 1 F H rfl ?_
   refine aiI H hz (by lia) fun s₂ t H=>?_
   exists dL 3 F H rfl ?_,aqS H (ahZ (by lia) ha1 ha2) fun s₂ t H=>?_
   refine arj H fun s₂ t H=>?_
   exists aa6 ⟨_,_,_,H,aam,fun s₂ t H=>abH [_,_] r'.handled H rfl fun s₂ H=>?_⟩
   exists 0,aaV ?_
   refine WP.bindName ?_
   exists sL 6 F H rfl fun s₂ H=>?_,0,aaV ?_
   refine WP.bindName ?_
   exists sL 5 F H rfl fun s₂ H=>?_,aiL ?_,aa7 ?_,agD ?_
   refine ael ?_
   exists spL 5 F H rfl ?_
   refine spL 6 F H rfl ?_
   exists spL 4 F H rfl ?_,aa6 ⟨_,_,_,H,aam,fun s₁ t H=>?_⟩
   have e:eu (n+1) a b=((eu n b (a.fmod b)).2.1,(eu n b (a.fmod b)).1 - a.fdiv b * (eu n b (a.fmod b)).2.1,(eu n b (a.fmod b)).2.2):=by simp only[eu,if_neg hz]
   rw[e] at h
   exact h _ _ _ _ _ H.out
theorem ahF (m:Nat):(if (m:Int)<0 then -(m:Int) else m)=m:=if_neg (by exact q79)
theorem agu (m n:Nat):(m:Int).fmod n=((m % n:Nat):Int):=by
 rw[Int.fmod_eq_emod_of_nonneg _ (Int.natCast_nonneg n)]; exact (Int.natCast_emod m n).symm
theorem amZ {w:World}{A:Around}{s:Shared}{m n:Nat}{tm tn:Tok}{Q:Value→Shared→Prop}(r:aah A 1 3) (B:Bs w s.heap) (h:∀ s' t,acZ s s'→Q (.int (Nat.gcd m n) t) s') :
  WP w A (call (.ref 189) [.int m tm,.int n tn]) Q s:=by
 exists adi (d:=0) (u:=0) (vs:=[some _,some _]) aqZ r B (aa0.start B) rfl (BindsTo.of_eq (by kernel_rfl)) (lb rfl) rfl fun A' env s₁ r' F H=>?_,aa7 ?_,adG (aqP 0 1 F) ?_,ael ?_,aa3 ?_,aaj 0 3 F H ?_
 refine spL 0 F H rfl ?_
 exists 0,aa6 ?_
 refine .of ?_
 refine call_abs_int fun t₁ tk=>?_
 replace H:=H.keep (aab tk)
 refine aa3 ?_
 refine aaj 0 3 F H ?_
 refine aa3 ?_
 refine dL 1 F H rfl ?_
 refine aa6 ?_
 refine .of ?_
 refine call_abs_int fun t₂ tk=>?_
 replace H:=H.keep (aab tk)
 rw[ahF,ahF]
 exists aa6 ⟨_,_,_,H,aam,fun s₂ t H=>abH [_,_] r'.handled H rfl fun s₂ H=>?_⟩
 exists aaV ?_
 refine WP.bindName ?_
 exists sL 1 F H rfl fun s₂ H=>?_,aaV ?_
 refine WP.bindName ?_
 exists sL 0 F H rfl fun s₂ H=>?_,aiL ?_,aa7 ?_,ap4 ?_,app (fun k s3=>∃ (m' n':Nat) (t1 t2:Tok) (L:List Res),n'=k∧Nat.gcd m' n'=Nat.gcd m n∧abq L∧aa0 s3 (aa1 env.locals (aal apz [some (.int m' t1),some (.int n' t2)])::aa5 w aaD aaD s::L)) ?_ n ⟨m,n,_,_,_,rfl,rfl,?_,H⟩
 ·rintro k s3 ⟨m',n',t1,t2,L,rfl,hg,hn,H⟩
  exists abP ?_,dL 1 F H rfl ?_,tI ?_
  by_cases hz:n'=0
  ·subst hz
   exists aa7 ?_,agD ?_,dL 0 F H rfl ?_
   refine ?_
   simp only[Nat.gcd_zero_right] at hg
   subst hg
   exact h _ _ (H.done ⟨fun J z=>z,hn⟩)
  ·refine ifP ((by simpa using hz)) ?_
   exists 0,aa7 ?_,adG (aqP 0 1 F) ?_,ael ?_,spL 1 F H rfl ?_,aa3 ?_,abG ?_,dL 0 F H rfl ?_,dL 1 F H rfl ?_,akE H (by exact q68 ‹_›) fun s₂ t3' H=>?_,aa6 ⟨_,_,_,H,aam,fun s₂ t H=>abH [_,_] r'.handled H rfl fun s₂ H=>?_⟩
   exists aaV ?_
   refine WP.bindName ?_
   exists sL 1 F H rfl fun s₂ H=>?_,aaV ?_
   refine WP.bindName ?_
   exists sL 0 F H rfl fun s₂ H=>?_,aiL ?_,aaL ?_
   rw[agu] at H
   refine⟨m' % n',Nat.mod_lt _ (by lia),n',m' % n',_,_,_,rfl,?_,?_,H⟩
   ·simp only[← hg,Nat.gcd_comm m' n',Nat.gcd_rec n' m',Nat.gcd_comm]
   ·exact⟨fun J z=>z,hn⟩
 ·exact⟨fun J z=>z,trivial⟩
noncomputable def ifB (s:Stmt):List Stmt:=(sP s).b
noncomputable def ifE (s:Stmt):List Stmt:=(sP s).o
noncomputable def whT (s:Stmt):Expr:=(sP s).e
noncomputable def whB (s:Stmt):List Stmt:=(sP s).b
noncomputable def at' (l:List Stmt) (i:Nat):Stmt:=l.getD i (.Pass default)
noncomputable def bS:abi (Int × Int) Unit where
 out:=fun o J v RY J=>∃ t tx ty,v=.ref t∧RY=ac5 t #[.int o.1 tx,.int o.2 ty]
 Sh:=fun J=>emp
noncomputable def lp1:Nat→Int→Int→Int→Int→List (Int × Int)
 | 0,_,_,_,_=>[]
 | n+1,a,b,x,y=>if 0≤y then (if 0≤x then [(x,y)] else [])++lp1 n a b (x+b) (y - a) else []
noncomputable def lp2:Nat→Int→Int→Int→Int→List (Int × Int)
 | 0,_,_,_,_=>[]
 | n+1,a,b,x,y=>if 0≤x then (if 0≤y then [(x,y)] else [])++lp2 n a b (x - b) (y+a) else []
noncomputable def W1:Stmt:=at' (ifB (at' (ifE (at' (aaa (D 10)) 7)) 3)) 0
noncomputable def W2:Stmt:=at' (ifE (at' (ifE (at' (aaa (D 10)) 7)) 3)) 0
noncomputable abbrev cW (W:Stmt) (env:Env):Code:=.whileLoop (whT W) (whB W) [] env
theorem arO {w:World}{env:Env}{k':Result→Sem PySem.Fin}{l:List Value}{body:List Stmt}{p:Pos}(F:aa8 env af9 alo) (hco:env.scope.isCoroutine=false) (hend:∀ A QR QY s,QR s→GP w A (.func body env) [] (k' (.ok .next)) QR QY s) (a b:Int) (ha:0<a) (ta tb:Tok) (v2 v3 v4 v5:Value) :
  ∀ n x y,(y+1).toNat≤n→∀ A,aah A 13 63→∀ R0' s0 s L tx ty,abq L→
   aa0 s (aa1 env.locals (aal af9 [some (.int a ta),some (.int b tb),some v2,some v3,some v4,some v5,some (.int x tx),some (.int y ty)])::aa5 w (aae [R0',emp]).fp (aae [R0',emp]).gp s0::emp::L)→
   GP w A (cW W1 env) [.ret k' none false l (.func body env) p []] ((model pw w).den (cW W1 env)) (PR bS (lp1 n a b x y) R0' () s0) (PY w 13 63 bS (lp1 n a b x y) R0' () s0) s:=by
 intro n
 induction n with
 | zero=>
  intro x y hn A r R0' s0 s L tx ty hL H
  exists ahm ?_,tLI 7 F H rfl fun s t H=>?_,dGe ?_,tB ?_
  have hy:¬ (0≤y):=by lia
  refine ifN ((by simpa using hy)) ?_
  exists aeq _ ?_
  refine hend _ _ _ _ ?_
  refine⟨_,_,⟨fun J z=>z,trivial⟩,trivial,rfl,((H.front [_]).fold [_,_]).turn hL⟩
 | succ n ih=>
  intro x y hn A r R0' s0 s L tx ty hL H
  exists ahm ?_,tLI 7 F H rfl fun s t H=>?_,dGe ?_,tB ?_
  by_cases hy:0≤y
  ·refine ifP ((by simpa using hy)) ?_
   have e:lp1 (n+1) a b x y=(if 0≤x then [(x,y)] else [])++lp1 n a b (x+b) (y - a):=by rw[lp1,if_pos hy]
   rw[e]
   have cont:∀ A,aah A 13 63→∀ R0' s0 s L tx ty,abq L→aa0 s (aa1 env.locals (aal af9 [some (.int a ta),some (.int b tb),some v2,some v3,some v4,some v5,some (.int x tx),some (.int y ty)])::aa5 w (aae [R0',emp]).fp (aae [R0',emp]).gp s0::emp::L)→
     GP w A (cW W1 env) [.ret k' none false l (.func body env) p []] ((execs ((whB W1).drop 1) env).wrap (KL (cW W1 env)) (HL env) id id) (PR bS (lp1 n a b (x+b) (y - a)) R0' () s0) (PY w 13 63 bS (lp1 n a b (x+b) (y - a)) R0' () s0) s:=by
    intro A r R0' s0 s L tx ty hL H
    exists gCW ?_,aqV ?_
    refine dLd 6 F H rfl ?_
    exists dL 1 F H rfl ?_
    refine apg H fun s t H=>?_
    exists 0
    exists sL 6 F H rfl fun s H=>?_,0,gCW ?_,aqV ?_,dLd 7 F H rfl ?_,dL 0 F H rfl ?_
    refine api H fun s t H=>?_
    exists sL 7 F H rfl fun s H=>?_,abK ?_,abA rfl ?_
    exact ih _ _ (by lia) A r R0' s0 s L _ _ hL H
   exists 0,gCI ?_,tLI 6 F H rfl fun s t H=>?_,0,dGe ?_,tB ?_
   by_cases hx:0≤x
   ·rw[if_pos (by simpa using hx),if_pos hx]
    exists abe ?_,abn rfl rfl rfl hco F.inter ?_
    refine ael ?_
    exists spL 6 F H rfl ?_,spL 7 F H rfl ?_,aa6 ⟨_,_,_,H,aam,fun s t H=>?_⟩
    intro gs' hgs
    refine⟨_,_,(),⟨_,_,_,rfl,rfl⟩,trivial,aaq.of (H.freeK' [] []) fun A' r' u s' H'=>?_,((H.front [_]).fold [_,_,_]).turn hL⟩
    refine hgs _ _ _ _ ?_
    exact cont A' r' _ _ _ [] _ _ trivial (H'.front [_])
   ·rw[if_neg (fun x=>hx (of_decide_eq_true x)),if_neg hx]
    exists abK ?_
    exact cont A r R0' s0 _ L _ _ hL H
  ·refine ifN ((by simpa using hy)) ?_
   have e:lp1 (n+1) a b x y=[]:=by rw[lp1,if_neg hy]
   rw[e]
   exists aeq _ ?_
   refine hend _ _ _ _ ?_
   refine⟨_,_,⟨fun J z=>z,trivial⟩,trivial,rfl,((H.front [_]).fold [_,_]).turn hL⟩
theorem arc {w:World}{env:Env}{k':Result→Sem PySem.Fin}{l:List Value}{body:List Stmt}{p:Pos}(F:aa8 env af9 alo) (hco:env.scope.isCoroutine=false) (hend:∀ A QR QY s,QR s→GP w A (.func body env) [] (k' (.ok .next)) QR QY s) (a b:Int) (hb:0<b) (ta tb:Tok) (v2 v3 v4 v5:Value) :
  ∀ n x y,(x+1).toNat≤n→∀ A,aah A 13 63→∀ R0' s0 s L tx ty,abq L→
   aa0 s (aa1 env.locals (aal af9 [some (.int a ta),some (.int b tb),some v2,some v3,some v4,some v5,some (.int x tx),some (.int y ty)])::aa5 w (aae [R0',emp]).fp (aae [R0',emp]).gp s0::emp::L)→
   GP w A (cW W2 env) [.ret k' none false l (.func body env) p []] ((model pw w).den (cW W2 env)) (PR bS (lp2 n a b x y) R0' () s0) (PY w 13 63 bS (lp2 n a b x y) R0' () s0) s:=by
 intro n
 induction n with
 | zero=>
  intro x y hn A r R0' s0 s L tx ty hL H
  exists ahm ?_,tLI 6 F H rfl fun s t H=>?_,dGe ?_,tB ?_
  have hy:¬ (0≤x):=by lia
  refine ifN ((by simpa using hy)) ?_
  exists aeq _ ?_
  refine hend _ _ _ _ ?_
  refine⟨_,_,⟨fun J z=>z,trivial⟩,trivial,rfl,((H.front [_]).fold [_,_]).turn hL⟩
 | succ n ih=>
  intro x y hn A r R0' s0 s L tx ty hL H
  exists ahm ?_,tLI 6 F H rfl fun s t H=>?_,dGe ?_,tB ?_
  by_cases hy:0≤x
  ·refine ifP ((by simpa using hy)) ?_
   have e:lp2 (n+1) a b x y=(if 0≤y then [(x,y)] else [])++lp2 n a b (x - b) (y+a):=by rw[lp2,if_pos hy]
   rw[e]
   have cont:∀ A,aah A 13 63→∀ R0' s0 s L tx ty,abq L→aa0 s (aa1 env.locals (aal af9 [some (.int a ta),some (.int b tb),some v2,some v3,some v4,some v5,some (.int x tx),some (.int y ty)])::aa5 w (aae [R0',emp]).fp (aae [R0',emp]).gp s0::emp::L)→
     GP w A (cW W2 env) [.ret k' none false l (.func body env) p []] ((execs ((whB W2).drop 1) env).wrap (KL (cW W2 env)) (HL env) id id) (PR bS (lp2 n a b (x - b) (y+a)) R0' () s0) (PY w 13 63 bS (lp2 n a b (x - b) (y+a)) R0' () s0) s:=by
    intro A r R0' s0 s L tx ty hL H
    exists gCW ?_,aqV ?_
    refine dLd 6 F H rfl ?_
    exists dL 1 F H rfl ?_
    refine api H fun s t H=>?_
    exists 0
    exists sL 6 F H rfl fun s H=>?_,0,gCW ?_,aqV ?_,dLd 7 F H rfl ?_,dL 0 F H rfl ?_
    refine apg H fun s t H=>?_
    exists sL 7 F H rfl fun s H=>?_,abK ?_,abA rfl ?_
    exact ih _ _ (by lia) A r R0' s0 s L _ _ hL H
   exists 0,gCI ?_,tLI 7 F H rfl fun s t H=>?_,0,dGe ?_,tB ?_
   by_cases hx:0≤y
   ·rw[if_pos (by simpa using hx),if_pos hx]
    exists abe ?_,abn rfl rfl rfl hco F.inter ?_
    refine ael ?_
    exists spL 6 F H rfl ?_,spL 7 F H rfl ?_,aa6 ⟨_,_,_,H,aam,fun s t H=>?_⟩
    intro gs' hgs
    refine⟨_,_,(),⟨_,_,_,rfl,rfl⟩,trivial,aaq.of (H.freeK' [] []) fun A' r' u s' H'=>?_,((H.front [_]).fold [_,_,_]).turn hL⟩
    refine hgs _ _ _ _ ?_
    exact cont A' r' _ _ _ [] _ _ trivial (H'.front [_])
   ·rw[if_neg (fun x=>hx (of_decide_eq_true x)),if_neg hx]
    exists abK ?_
    exact cont A r R0' s0 _ L _ _ hL H
  ·refine ifN ((by simpa using hy)) ?_
   have e:lp2 (n+1) a b x y=[]:=by rw[lp2,if_neg hy]
   rw[e]
   exists aeq _ ?_
   refine hend _ _ _ _ ?_
   refine⟨_,_,⟨fun J z=>z,trivial⟩,trivial,rfl,((H.front [_]).fold [_,_]).turn hL⟩
theorem acf (m n:Nat):(m:Int).fdiv n=((m / n:Nat):Int):=by
 rw[Int.fdiv_eq_ediv_of_nonneg _ (Int.natCast_nonneg n)]; exact (Int.natCast_ediv m n).symm
theorem apf:∀ (n a b:Nat),b≤n→(eu n a b).2.2=(Nat.gcd a b:Int):=by
 intro xX
 induction xX with
 | zero=>
  refine @fun a b h=>?_
  obtain rfl:b=0:=by lia
  simp[eu]
 | succ n ih=>
  refine @fun a b h=>?_
  by_cases hb:b=0
  ·subst hb; simp[eu]
  ·have hb':¬ ((b:Int)=0):=by exact q68 ‹_›
   simp only[eu,if_neg hb']
   rw[agu,ih b (a % b) (by have:=Nat.mod_lt a (Nat.pos_of_ne_zero hb); lia),Nat.gcd_comm b,← Nat.gcd_rec,Nat.gcd_comm]
noncomputable def aoT (a b c:Nat):List (Int × Int):=
 if c=0 then [(0,0)] else
 if (c:Int).fmod (eu b a b).2.2≠0 then [] else
 if (c:Int) * (eu b a b).1≤0 then lp1 ((c:Int) * (eu b a b).2.1+1).toNat a b (c * (eu b a b).1) (c * (eu b a b).2.1)
 else lp2 ((c:Int) * (eu b a b).1+1).toNat a b (c * (eu b a b).1) (c * (eu b a b).2.1)
noncomputable def bsl (a b c:Nat):List (Int × Int):=aoT (a / Nat.gcd a (Nat.gcd b c)) (b / Nat.gcd a (Nat.gcd b c)) (c / Nat.gcd a (Nat.gcd b c))
theorem akZ {w:World}{A:Around}{s s0:Shared}{env:Env}{a b c:Nat}{ta tb tc:Tok}{v3 v4 v5 v6 v7:Option Value}{R0':Res}(r:aah A 13 63) (F:aa8 env af9 alo) (hco:env.scope.isCoroutine=false) (ha:0<a) (ha2:a≤1000) (hb:0<b) (hb2:b≤10) (hc2:c≤1000)
  (H:aa0 s (aa1 env.locals (aal af9 [some (.int a ta),some (.int b tb),some (.int c tc),v3,v4,v5,v6,v7])::aa5 w (aae [R0',emp]).fp (aae [R0',emp]).gp s0::emp::[])) :
  GP w A (.func (aaa (D 10)) env) [] ((execs [at' (aaa (D 10)) 7] env).wrap KF (HF env) id id) (PR bS (aoT a b c) R0' () s0) (PY w 13 63 bS (aoT a b c) R0' () s0) s:=by
 have R':aah (A.over (.func (aaa (D 10)) env) []) 12 60:=r.over
 exists gCI ?_,tLI 2 F H rfl fun s t H=>?_,0,tEq ?_
 by_cases hz:c=0
 ·rw[if_pos (by simpa using hz),show aoT a b c=[(0,0)] from if_pos hz]
  refine GP.lt ?_
  intro QR QY
  exists abe ?_,abn rfl rfl rfl hco F.inter ?_,ael ?_,aa3 ?_,aaW H fun s t₁ H=>?_,aa3 ?_
  refine aaW H fun s t₂ H=>?_
  exists aa6 ⟨_,_,_,H,aam,fun s t H=>?_⟩
  intro gs' hgs
  refine⟨_,_,(),⟨_,_,_,rfl,rfl⟩,trivial,aaq.of (H.freeK' [] []) fun A' r' u s' H'=>?_,((H.front [_]).fold [_,_,_]).turn⟩
  refine hgs _ _ _ _ ?_
  replace H':=H'.front [_]
  exact afm ⟨_,_,⟨fun J z=>z,trivial⟩,trivial,rfl,((H'.front [_]).fold [_,_]).turn⟩
 ·refine ifN ((by simpa using hz)) ?_
  generalize hQ:aoT a b c=out
  rw[aoT,if_neg hz] at hQ
  exists gCW ?_
  refine agE ?_
  exists acj 2 6 F aqX H ?_
  refine spL 0 F H rfl ?_
  exists spL 1 F H rfl ?_
  refine aa6 ⟨H.bs,alg b (R'.mono (Nat.add_le_add_right hb2 2) (Nat.le_trans (Nat.add_le_add_right (Nat.mul_le_mul_left 3 hb2) 6) (by decide))) H.bs (Int.natCast_nonneg b) (Nat.le_refl _) (by simp +arith) (by lia) (by lia) fun s' t x y z m=>?_⟩
  replace H:=H.made m
  have he:(eu b a b).2.2≠0:=by
   rw[apf _ _ _ (Nat.le_refl _)]
   have:=Nat.gcd_pos_of_pos_left b ha
   lia
  exists aqT [_,_] R'.handled H fun s₂ H=>?_,0,aaV ?_,aS 4 F H rfl fun s₂ H=>?_,aaV ?_,aS 5 F H rfl fun s₂ H=>?_,aaV ?_,aS 3 F H rfl fun s₂ H=>?_,aiL ?_
  generalize eu b a b=e at *
  obtain⟨e1,e2,e3⟩:=e
  dsimp only at hQ he H
  exists 0,gCW ?_,dIf ?_,abS ?_,abG ?_,dL 2 F H rfl ?_,dL 3 F H rfl ?_,akE H he fun s t H=>?_,aaW H fun s t H=>?_,dNe ?_,tB ?_
  by_cases hm:(c:Int).fmod e3=0
  ·rw[if_neg (fun z=>z hm)] at hQ
   refine ifN ((by simp[hm])) ?_
   exists aaL ?_,gCW ?_,adG (aqP 6 7 F) ?_,ael ?_,aa3 ?_,abG ?_
   refine dL 2 F H rfl ?_
   exists dL 4 F H rfl ?_,aqS H (by lia) fun s t H=>?_,0,aa3 ?_
   refine abG ?_
   exists dL 2 F H rfl ?_,dL 5 F H rfl ?_
   refine aqS H (by lia) fun s t H=>?_
   exists 0,aa6 ⟨_,_,_,H,aam,fun s₂ t H=>abH [_,_] R'.handled H rfl fun s₂ H=>?_⟩
   exists 0,aaV ?_
   refine WP.bindName ?_
   exists sL 7 F H rfl fun s₂ H=>?_,0,aaV ?_
   refine WP.bindName ?_
   exists sL 6 F H rfl fun s₂ H=>?_,0,aiL ?_,gCI ?_,tLI 6 F H rfl fun s t H=>?_,dLe ?_,tB ?_
   by_cases hx:(c:Int) * e1≤0
   ·rw[if_pos (by simpa using hx),← hQ,if_pos hx]
    exists abe ?_,amo fun p k' l hk=>?_
    exact arO F hco (fun A QR QY s hq=>by rw[hk]; exact afm hq) a b (Int.natCast_pos.mpr ha) _ _ _ _ _ _ _ _ _ (Nat.le_refl _) A r _ _ _ [_,_] _ _ ⟨fun J z=>z,fun J z=>z,trivial⟩ ((H.front [_,_,_,_]).back [_,_])
   ·rw[if_neg (fun x=>hx (of_decide_eq_true x)),← hQ,if_neg hx]
    exists abe ?_,amo fun p k' l hk=>?_
    exact arc F hco (fun A QR QY s hq=>by rw[hk]; exact afm hq) a b (Int.natCast_pos.mpr hb) _ _ _ _ _ _ _ _ _ (Nat.le_refl _) A r _ _ _ [_,_] _ _ ⟨fun J z=>z,fun J z=>z,trivial⟩ ((H.front [_,_,_,_]).back [_,_])
  ·rw[if_pos hm] at hQ
   subst hQ
   refine ifP ((by simpa using hm)) ?_
   exists aa7 ?_,afM ?_
   exact afm ⟨_,_,⟨fun J z=>z,trivial⟩,trivial,rfl,((((H.front [_,_,_]).back [_,_]).front [_]).fold [_,_]).turn⟩
theorem amk {w:World}{A:Around}{s:Shared}{a b c:Nat}{ta tb tc:Tok}{Q:Value→Shared→Prop}(r:aah A 1 3) (B:Bs w s.heap) (ha:0<a) (hb:0<b) (ha2:a≤1000) (hb2:b≤10) (hc2:c≤1000)
  (h:∀ a' g gs R s',acr (aae [aak a' g false gs,R]) s s'→aaq w 13 63 bS (bsl a b c) gs R→Q (.ref a') s'):WP w A (call (.ref 299) [.int a ta,.int b tb,.int c tc]) Q s:=by
 exists agc (d:=0) (u:=0) (vs:=[some _,some _,some _,none,none,none,none,none]) arJ r B rfl (BindsTo.of_eq (by kernel_rfl)) (lb rfl) rfl fun env a' g s' F hco m hf=>?_
 refine h _ _ _ _ _ m (aaq.of hf fun A r u s H=>?_)
 replace H:=H.front [_]
 have R':aah (A.over (.func (aaa (D 10)) env) []) 12 60:=r.over
 have hgp:0<Nat.gcd a (Nat.gcd b c):=Nat.gcd_pos_of_pos_left _ ha
 unfold bsl
 have hap:0<a / Nat.gcd a (Nat.gcd b c):=Nat.div_pos (Nat.gcd_le_left _ ha) hgp
 have hbp:0<b / Nat.gcd a (Nat.gcd b c):=Nat.div_pos (Nat.le_of_dvd hb (Nat.dvd_trans (Nat.gcd_dvd_right _ _) (Nat.gcd_dvd_left _ _))) hgp
 have hga:Nat.gcd a (Nat.gcd b c)≤1000:=Nat.le_trans (Nat.gcd_le_left _ ha) ha2
 generalize hg:Nat.gcd a (Nat.gcd b c)=g at hgp hap hbp hga
 have hal:a / g≤1000:=Nat.le_trans (Nat.div_le_self _ _) ha2
 have hbl:b / g≤10:=Nat.le_trans (Nat.div_le_self _ _) hb2
 have hcl:c / g≤1000:=Nat.le_trans (Nat.div_le_self _ _) hc2
 refine GP.lt ?_
 intro QR QY
 exists 0,afj ?_,gCW ?_,akG F H fun s H=>?_,0,gCW ?_,dIf ?_,ahQ ?_,tOr ?_,tLI 0 F H rfl fun s t H=>?_,dLe ?_,tB ?_
 refine ifN ((by simp; lia)) ?_
 exists tOr ?_,tLI 1 F H rfl fun s t H=>?_,dLe ?_,tB ?_
 refine ifN ((by simp; lia)) ?_
 exists amF ?_,aaL ?_,gCW ?_,dIf ?_,tLI 2 F H rfl fun s t H=>?_,dLt ?_,tB ?_
 refine ifN ((by simp)) ?_
 exists aaL ?_,gCW ?_,ac8 ?_
 refine acj 1 1 F aqZ H ?_
 exists spL 0 F H rfl ?_,aa3 ?_
 refine acj 1 1 F aqZ H ?_
 exists spL 1 F H rfl ?_
 refine spL 2 F H rfl ?_
 exists aa6 ⟨H.bs,amZ (R'.mono (by exact lb rfl) (by exact lb rfl)) H.bs fun s' t k=>?_⟩
 replace H:=H.keep k
 exists aa6 ⟨H.bs,amZ (R'.mono (by exact lb rfl) (by exact lb rfl)) H.bs fun s' t k=>?_⟩
 replace H:=H.keep k
 rw[hg]
 exists sL 3 F H rfl fun s H=>?_,gCW ?_,ac8 ?_
 refine abG ?_
 exists dL 0 F H rfl ?_,dL 3 F H rfl ?_,aiI H (by exact q76 ‹_› ‹_›) (by exact q51 ‹_› ‹_›) fun s t H=>?_
 rw[acf]
 exists sL 0 F H rfl fun s H=>?_,0,gCW ?_,ac8 ?_
 refine abG ?_
 exists dL 1 F H rfl ?_,dL 3 F H rfl ?_,aiI H (by exact q76 ‹_› ‹_›) (by exact q51 ‹_› ‹_›) fun s t H=>?_
 rw[acf]
 exists sL 1 F H rfl fun s H=>?_,0,gCW ?_,ac8 ?_
 refine abG ?_
 exists dL 2 F H rfl ?_,dL 3 F H rfl ?_,aiI H (by exact q76 ‹_› ‹_›) (by exact q51 ‹_› ‹_›) fun s t H=>?_
 rw[acf]
 exists sL 2 F H rfl fun s H=>?_
 exact akZ r F hco hap hal hbp hbl hcl H
noncomputable def acA:List Str:=["total", "coeffs", "coeff", "coeff0_solution", "remainder_gcd_solution", "new_coeffs", "remainder_solution"]
noncomputable def ai9:List Str:=["len", "tuple", "base_solution_linear", "_gcd", "solve_linear_diop"]
theorem aqY:FnC aoG 304 acA ["remainder_gcd"] ai9 where
 obj P:=⟨kAt P 76,mK 76 (by kernel_rfl),by kernel_rfl⟩
 code P:=⟨303,kAt P 75,aac (kAt P 75),abO (aac (kAt P 75))[1]?,by kernel_rfl,mK 75 (by kernel_rfl),by kernel_rfl,by kernel_rfl⟩
 chk:=by kernel_rfl
 cel n:=by kernel_rfl
theorem akz (v c1 c2:Value):bindArgs aoG ⟨[v,c1,c2],[]⟩=(newTuple [c1,c2] >>= fun t=>pure [(("total" : Str),v),(("coeffs" : Str),t)]):=by kernel_rfl
theorem aiS (v c1 c2 c3:Value):bindArgs aoG ⟨[v,c1,c2,c3],[]⟩=(newTuple [c1,c2,c3] >>= fun t=>pure [(("total" : Str),v),(("coeffs" : Str),t)]):=by kernel_rfl
noncomputable def dS:abi (List Int) Unit where
 out:=fun o J v RY J=>∃ t vs,v=.ref t∧RY=ac5 t vs.toArray∧IntsAre vs o
 Sh:=fun J=>emp
theorem aah.over2 {A:Around}{d u dd uu:Nat}{c:Code}{fs:List Frame}(r:aah A (d+dd) (u+uu)) (hm:(marksOver fs (A.handled,A.handled)).1=A.handled) (hw:frameCount (fs.map Frame.where_)+c.weight=dd) (hu:unitsOf (fs.map Frame.where_)+c.cUnits=uu):aah (A.over c fs) d u:=
 ⟨hm.trans r.handled,by show A.depth+frameCount (fs.map Frame.where_)+c.weight+d≤900; have:=r.depth; lia,by show A.units+unitsOf (fs.map Frame.where_)+c.cUnits+u≤9000; have:=r.units; lia⟩
theorem aba {L:List Res}(h:abq L):∀ g,(aae L).gp g→False:=fun g ⟨R,m,x⟩=>h.mem R m g x
theorem akm {a b c:Res}{f:Res→Prop}(hf:f (aae [b,c]) = ∃ R∈[b,c],f R):(∃ R∈[a,b,c],f R)↔∃ R∈[a,aae [b,c]],f R:=by
 constructor
 ·intro ⟨R,m,x⟩
  cases m with
  | head=>exact⟨_,.head _,x⟩
  | tail _ m=>exact⟨_,.tail _ (.head _),hf▸⟨R,m,x⟩⟩
 ·intro ⟨R,m,x⟩
  cases m with
  | head=>exact⟨_,.head _,x⟩
  | tail _ m=>
   obtain rfl:=List.mem_singleton.mp m
   simp only[hf] at x
   obtain⟨R,m,x⟩:=x
   exact⟨R,.tail _ m,x⟩
theorem aeV {a b c:Res}{s s':Shared}(m:acr (aae [a,b,c]) s s'):acr (aae [a,aae [b,c]]) s s':=by
 have hp:aaf s' [a,aae [b,c]]:=by
  have h2:aaf s' ([b,c]++[a]):=by
   have h3:aaf s' ([a]++[b,c]):=(m.p)
   obtain⟨x,y,z⟩:=aaf.append.mp h3
   exact aaf.append.mpr ⟨y,x,fun R m R' m'=>(z R' m' R m).symm⟩
  have h4:aaf s' ([aae [b,c]]++[a]):=aaf.sep.mpr h2
  obtain⟨x,y,z⟩:=aaf.append.mp h4
  exact (aaf.append (L:=[a]) (M:=[aae [b,c]])).mpr ⟨y,x,fun R m R' m'=>(z R' m' R m).symm⟩
 exact⟨m.kept,fun g x e hc hn=>m.new g x e hc fun z=>hn ((akm (f:=fun R=>R.gp g) rfl).mp z),hp,fun x y=>m.fp x ((akm (f:=fun R=>R.fp x) rfl).mpr y),fun x y=>m.gp x ((akm (f:=fun R=>R.gp x) rfl).mpr y)⟩
theorem aiY {w:World}{A:Around}{s:Shared}{n a b:Nat}{tn ta tb:Tok}{Q:Value→Shared→Prop}(r:aah A 1 3) (B:Bs w s.heap) (ha:0<a) (hb:0<b) (ha2:a≤1000) (hb2:b≤10) (hn2:n≤1000)
  (h:∀ a' g gs R s',acr (aae [aak a' g false gs,R]) s s'→aaq w 20 90 dS ((bsl a b n).map fun o=>[o.1,o.2]) gs R→Q (.ref a') s'):WP w A (call (.ref 304) [.int n tn,.int a ta,.int b tb]) Q s:=by
 exists amh (d:=0) (u:=0) (n0 := "total") (n1 := "coeffs") aqY r B rfl (akz _ _ _) aam fun env a' g t s' F C hco m=>?_
 refine h a' g _ _ s' (aeV m) (aaq.of (((aeV m).freeK B).of _ (.tail _ (.head _))) fun A r u s H=>?_)
 have H1:=aa0.sep.mp (H.front [_])
 have H2:=aa0.sep.mp H1
 have H:aa0 s (aa1 env.locals (aal acA [some (.int n tn),some (.ref t),none,none,none,none,none])::_::aai (env.locals+1:Nat) none::ac5 t #[.int a ta,.int b tb]::emp::[]):=(H2.front [_,_,_]).front [_]
 clear H1 H2
 have F':aa8 env acA ai9:=F
 have R':aah (A.over (.func (aaa (D 11)) env) []) 19 87:=r.over
 exists 0,afj ?_
 refine GP.lt ?_; intro QR' QY'
 exists gCW ?_,akG F' H fun s H=>?_,gCI ?_,abS ?_
 refine aaj 0 2 F' H ?_
 exists spL 1 F' H rfl ?_,aa6 ?_,ag3 [_,_,_] H (lb rfl) fun s u H=>?_
 refine aa0.lt H ?_; intro T' H
 exists aaW H fun s t H=>?_,tEq ?_
 refine ifN ((by simp)) ?_
 exists abK ?_,gCI ?_,abS ?_
 refine aaj 0 2 F' H ?_
 exists spL 1 F' H rfl ?_,aa6 ?_,ag3 [_,_,_] H (lb rfl) fun s u H=>?_
 refine aa0.lt H ?_; intro T' H
 exists aaW H fun s t H=>?_,tEq ?_
 refine ifN ((by simp)) ?_
 exists abK ?_,gCI ?_,abS ?_
 refine aaj 0 2 F' H ?_
 exists spL 1 F' H rfl ?_,aa6 ?_
 refine ag3 [_,_,_] H (lb rfl) fun s u H=>?_
 exists 0,aaW H fun s t H=>?_,tEq ?_
 refine ifP ((rfl)) ?_
 exists abe ?_,adh F'.inter ?_,acj 2 7 F' arJ H ?_,aa3 ?_,aeh 1 F' H rfl fun s u H=>?_,aim (k:=0) [_,_,_] H rfl (by decide) ?_,aa3 ?_,aeh 1 F' H rfl fun s u H=>?_
 refine aim (k:=1) [_,_,_] H rfl (by decide) ?_
 exists spL 0 F' H rfl ?_,aa6 ⟨H.bs,amk (R'.mono (by exact lb rfl) (by exact lb rfl)) H.bs ha hb ha2 hb2 hn2 fun b' g' gs' R₁ s' m G=>?_⟩
 replace H:=H.made m
 refine⟨b',g',rfl,m.p.1.1,fun p k' l hk=>?_⟩
 have H4:=(((aa0.sep.mp (((((H.front [_]).front [_,_]).back [_,_,_,_]).fold (M:=[_,emp]) [_,_,_]).front [_,_])).front [_,_]).front [_,_,_]).back [_]
 have y:=ahq (S1:=bS) (S2:=dS) (d:=13) (u:=63) (d₂:=20) (u₂:=90) (rest:=[]) (fun o=>[o.1,o.2]) rfl (fun o x v RY y ⟨t,tx,ty,e1,e2⟩=>⟨t,[.int o.1 tx,.int o.2 ty],e1,e2,by constructor; constructor; constructor⟩) (fun J J J J J J=>trivial) (k':=k') (l:=l) (p:=p) (cF:=.func (aaa (D 11)) env) (fun A r=>(aah.over2 (dd:=1) (uu:=4) (d:=19) (u:=86) r rfl rfl rfl).mono (by exact lb rfl) (by exact lb rfl)) (fun A r R0' x x' s0 s L hx hL H=>?_) _ gs' R₁ G A r _ () _ _ [] trivial H4
 ·rw[List.append_nil] at y
  exact y
 ·rw[hk]
  exists gCW ?_,afM ?_,afm ⟨_,x',⟨aba ?_,trivial⟩,trivial,hx,((H.fold [_,_]).turn hL)⟩
  exact⟨fun J z=>z,fun J z=>z,fun J z=>z,trivial⟩
noncomputable def adk:Nat→List Nat→List (List Int)
 | total,[]=>if total=0 then [[]] else []
 | total,c::cs=>(List.range (total / c+1)).flatMap fun k=>(adk (total - k * c) cs).map ((k:Int)::·)
noncomputable def afq (a b n:Nat):List (List Int):=(bsl a b n).map fun o=>[o.1,o.2]
noncomputable def akI (a b c n:Nat):List (List Int):=(bsl a (Nat.gcd b c) n).flatMap fun o=>(afq (b / Nat.gcd b c) (c / Nat.gcd b c) o.2.toNat).map fun q=>o.1::q
theorem ajh:∀ n∈List.range 5,∀ a∈[1,2,3],∀ b∈[1,2,3],∀ o∈bsl a b n,0≤o.1∧0≤o.2∧o.1≤4∧o.2≤4:=by decide +kernel
section
open Builtin Builtin.ObjectAttr
structure Row where
 a:Addr
 k:Int
 tk:Tok
 c:Int
 tc:Tok
noncomputable def Row.items (r:Row):Array Value:=#[.int r.k r.tk,.int r.c r.tc]
noncomputable def ad1 (r:Row):Res:=as0 r.a r.items
structure Ms where
 x:Addr
 dx:Addr
 l:Addr
 rows:List Row
noncomputable def Ms.abs (m:Ms):List (Int × Int):=m.rows.map fun r=>(r.k,r.c)
noncomputable def Ms.refs (m:Ms):Array Value:=(m.rows.map fun r=>Value.ref r.a).toArray
noncomputable def msR (m:Ms):Res:=aae [acG m.x 178 m.dx,ah4 m.dx m.l,aa2 m.l m.refs,aae (m.rows.map ad1)]
noncomputable def cnt:List (Int × Int)→Int→Int
 | [],_=>0
 | p::r,k=>if p.1=k then p.2 else cnt r k
noncomputable def tot:List (Int × Int)→Int
 | []=>0
 | p::r=>p.2+tot r
structure afS (m:Ms) (h:Heap):Prop where
 x:h.get? m.x=some (instObj 178 m.dx)
 att:∃ hs tk n,h.get? m.dx=some (aoB hs tk m.l n)
 l:h.PlainList m.l m.refs
 rows:∀ r∈m.rows,h.IsList r.a r.items
theorem afS.keeps {m:Ms}{h h':Heap}(x:afS m h) (k:∀ a o,h.get? a=some o→h'.get? a=some o):afS m h':=
 ⟨k _ _ x.x,let ⟨hs,tk,n,e⟩:=x.att; ⟨hs,tk,n,k _ _ e⟩,let ⟨n,e⟩:=x.l; ⟨n,k _ _ e⟩,fun r m=>let ⟨o,ho,q⟩:=x.rows r m; ⟨o,k _ _ ho,q⟩⟩
theorem aaf.mem {s:Shared}:∀ {L:List Res},aaf s L→∀ R∈L,R.P s
 | _::_,h,_,.head _=>h.1
 | _::_,h,R,.tail _ m=>aaf.mem h.2.2 R m
theorem ahx {m:Ms}{s:Shared}(h:(msR m).P s):afS m s.heap:=
 ⟨h.1,h.2.2.1,h.2.2.2.2.1,fun r hr=>aaf.mem h.2.2.2.2.2.2.1 _ (List.mem_map_of_mem hr)⟩
section
variable {w:World}{A:Around}{s s0:Shared}{env:Env}{L:List Res}{ns gs:List Str}{R₁:Res}
theorem aa0.old (H:aa0 s (R₁::aa5 w aaD aaD s0::L)):∀ a o,s0.heap.get? a=some o→s.heap.get? a=some o:=fun a o e=>(H.at [_]).kept.heap a o (fun z=>z) e
theorem aaM {l:Addr}{items:Array Value}{R R₂:Res}{Q:Value→Shared→Prop}(hl:s.heap.IsList l items) (H:aa0 s (R::R₂::L)) (h:∀ s' it,aa0 s' (R::R₂::abx it l 0::L)→Q (.ref it) s'):WP w A (pyIter (.ref l)) Q s:=
 .of (wpAny_pyIter_list hl (h _ _ (H.made (R':=abx _ l 0) (.of (fun J J e=>Heap.get?_push_of_some _ e) rfl rfl ⟨_,Heap.get?_push_size _ rfl,rfl,rfl⟩ aa9 fun J z=>z))))
end
theorem afy {m:Ms}{i:Nat}{r:Row}(h:m.rows[i]? = some r):m.refs[i]? = some (.ref r.a):=by unfold Ms.refs; simp[h]
theorem adP {m:Ms}{i:Nat}(h:m.rows[i]? = none):m.refs[i]? = none:=by unfold Ms.refs; simp at h ⊢; exact h
theorem ahP {rows:List Row}{k:Int}:∀ {i:Nat},(∀ r∈rows.take i,r.k≠k)→cnt (rows.map fun r=>(r.k,r.c)) k=cnt ((rows.drop i).map fun r=>(r.k,r.c)) k:=by
 induction rows with
 | nil=>intro i _; simp
 | cons r rows ih=>
  intro i h
  cases i with
  | zero=>rfl
  | succ i=>
   have h1:r.k≠k:=h r (by simp)
   simp only[List.map_cons,cnt,if_neg h1,List.drop_succ_cons]
   exact ih fun r m=>h r (by simp[m])
inductive I85 (m:Ms) (k:Int) (env:Env) (tk:Tok) (w:World) (s:Shared) (it:Addr) (n:Nat) (s':Shared):Prop
 | mk (i vr):n=m.rows.length - i→(∀ r∈m.rows.take i,r.k≠k)→aa0 s' (aa1 env.locals (aal atc [some (.ref m.x),some (.int k tk),vr])::aa5 w aaD aaD s::abx it m.l i::[])→I85 m k env tk w s it n s'
theorem aj8 {w:World}{A:Around}{s:Shared}{m:Ms}{k:Int}{tk:Tok}{Q:Value→Shared→Prop}(r:aah A 1 3) (B:Bs w s.heap) (hm:afS m s.heap) (h:∀ s' t,acZ s s'→Q (.int (cnt m.abs k) t) s') :
  WP w A (call (.ref 85) [.ref m.x,.int k tk]) Q s:=by
 exists adi (d:=0) (u:=0) (vs:=[some _,some _,none]) X85 r B (aa0.start B) rfl (BindsTo.of_eq (by kernel_rfl)) (lb rfl) rfl fun A' env s₁ r' F H=>?_
 have M1:=hm.keeps H.old
 exists aa7 ?_,aem ?_
 refine acF ?_
 exists dL 0 F H rfl ?_
 refine adg H.bs M1.x M1.att ?_
 refine ?_
 replace H:=H.keep (aab (s₁.toks+1))
 exists aaM M1.l.isList H fun s₂ it H=>?_,abB (I:=I85 m k env tk w s it) (fun n s' hI=>?_) _ ⟨0,none,rfl,by simp,H⟩
 obtain⟨i,vr,e,hi,H⟩:=hI
 have M1:=hm.keeps H.old
 cases hr:m.rows[i]? with
 | none=>
  exists abF [_,_] r'.handled H M1.l.isList (adP hr) fun s₂ H=>?_
  refine aa7 ?_
  exists agD ?_,aaW H fun s3 t H=>?_
  have e0:cnt m.abs k=0:=by
   unfold Ms.abs
   rw[ahP hi,List.drop_eq_nil_of_le (by simpa using hr)]; rfl
  have:=h s3 t H.done
  rw[e0] at this
  exact this
 | some row=>
  have hlt:=(List.getElem?_eq_some_iff.mp hr).1
  exists aaN [_,_] H M1.l.isList (afy hr) fun s₂ H=>?_,0,goS 2 F H rfl fun s₂ H=>?_,0
  exists aa7 ?_,dIf ?_,abS ?_,aeh 2 F H rfl fun s3 t H=>?_
  have M2:=(hm.keeps H.old).rows row (List.mem_of_getElem? hr)
  exists abu (k:=0) M2 rfl (by decide) ?_,dL 1 F H rfl ?_,tEq ?_
  by_cases hk:row.k=k
  ·refine ifP ((by simpa using hk)) ?_
   exists aa7 ?_,agD ?_,aeh 2 F H rfl fun s3 t H=>?_
   exists abu (k:=1) ((hm.keeps H.old).rows row (List.mem_of_getElem? hr)) rfl (by decide) ?_
   have e1:cnt m.abs k=row.c:=by
    unfold Ms.abs
    rw[ahP hi,List.drop_eq_getElem_cons hlt,List.map_cons,cnt,if_pos]
    ·have:m.rows[i] = row:=by rw[List.getElem?_eq_getElem hlt] at hr; exact Option.some.inj hr
     simp[this]
    ·have:m.rows[i] = row:=by rw[List.getElem?_eq_getElem hlt] at hr; exact Option.some.inj hr
     simp[this,hk]
   have:=h s3 row.tc H.done
   rw[e1] at this
   exact this
  ·refine ifN ((by simpa using hk)) ?_
   exists aaL ?_,aaL ?_
   refine⟨m.rows.length - (i+1),by exact q1 ‹_› ‹_›,i+1,_,rfl,fun r hr'=>?_,H⟩
   rw[List.take_succ,List.mem_append] at hr'
   rcases hr' with hr' | hr'
   ·exact hi r hr'
   ·rw[hr] at hr'
    simp at hr'
    rw[hr']; exact hk
theorem aap.nil {env:Env}{k:NameKind}:aap env k [] []:=⟨fun i x h=>by simp at h,fun i x c h=>by simp at h,fun i x h=>by simp at h⟩
noncomputable def pD (p:Int × Int):PyData:=.tuple [.int p.1,.int p.2]
noncomputable def msD (l:List (Int × Int)):PyData:=.list (l.map pD)
theorem af4 {D:List Fz}{v:Value}{p:Int × Int}(h:RD D v (pD p)):∃ a tk tc,v=.ref a∧⟨true,a,#[.int p.1 tk,.int p.2 tc]⟩∈D:=by
 obtain⟨T,⟨l⟩,rfl,hT,hd⟩:=h.tup
 obtain⟨v1,l,rfl,h1,hd⟩:=hd.uncons
 obtain⟨v2,l,rfl,h2,hd⟩:=hd.uncons
 cases hd.unnil
 obtain⟨tk,rfl⟩:=h1.inti
 obtain⟨tc,rfl⟩:=h2.inti
 exact⟨T,tk,tc,rfl,hT⟩
theorem alz {rows:List Row}{i:Nat}{row:Row}(h:rows[i]? = some row):tot ((rows.take (i+1)).map fun r=>(r.k,r.c))=tot ((rows.take i).map fun r=>(r.k,r.c))+row.c:=by
 induction rows generalizing i with
 | nil=>simp at h
 | cons r rows ih=>
  cases i with
  | zero=>simp at h; subst h; simp[tot]
  | succ i=>simp only[List.take_succ_cons,List.map_cons,tot]; rw[ih (by simpa using h)]; lia
section
variable {w:World}{A:Around}{s s0:Shared}{L:List Res}
theorem abj {elt target iter:Expr}{ifs:List Expr}{scope:Scope}{pos:Pos}{it l:Addr}{i:Nat}{acc:Value}{cenv:Env}{P:Flow→Shared→Prop}(M:List Res) (H:aa0 s (M++abx it l i::L)) (h:CP w A (.compLoop (LC elt target iter ifs scope pos) 0 (.ref it) acc cenv) P s) :
  CP w A (.compStart (LC elt target iter ifs scope pos) 0 (.ref it) acc cenv) P s:=ad4 h (.of (wpAny_pyIter_listiter (H.at M) h))
end
inductive ati (m:Ms) (env:Env) (w:World) (s:Shared) (it:Addr) (n:Nat) (s':Shared):Prop
 | mk (i vr t):n=m.rows.length - i→i≤m.rows.length→aa0 s' (aa1 env.locals (aal ap2 [some (.ref m.x),some (.int (tot ((m.rows.take i).map fun r=>(r.k,r.c))) t),vr])::aa5 w aaD aaD s::abx it m.l i::[])→ati m env w s it n s'
theorem arm {w:World}{A:Around}{s:Shared}{m:Ms}{Q:Value→Shared→Prop}(r:aah A 1 3) (B:Bs w s.heap) (hm:afS m s.heap) (h:∀ s' t,acZ s s'→Q (.int (tot m.abs) t) s') :
  WP w A (call (.ref 104) [.ref m.x]) Q s:=by
 exists adi (d:=0) (u:=0) (vs:=[some _,none,none]) atS r B (aa0.start B) rfl (BindsTo.of_eq (by kernel_rfl)) (lb rfl) rfl fun A' env s₁ r' F H=>?_,aa7 ?_
 refine ac8 ?_
 exists 0,aaW H fun s₁ t0 H=>?_,sL 1 F H rfl fun s₁ H=>?_
 have M1:=hm.keeps H.old
 exists aa7 ?_,aem ?_
 refine acF ?_
 exists dL 0 F H rfl ?_
 refine adg H.bs M1.x M1.att ?_
 refine ?_
 replace H:=H.keep (aab (s₁.toks+1))
 exists aaM M1.l.isList H fun s₂ it H=>?_,abB (I:=ati m env w s it) (fun n s' hI=>?_) _ ⟨0,none,t0,rfl,Nat.zero_le _,H⟩
 obtain⟨i,vr,t,e,hi,H⟩:=hI
 have M1:=hm.keeps H.old
 cases hr:m.rows[i]? with
 | none=>
  exists abF [_,_] r'.handled H M1.l.isList (adP hr) fun s₂ H=>?_
  refine aa7 ?_
  exists agD ?_,dL 1 F H rfl ?_
  have e0:m.rows.take i=m.rows:=List.take_of_length_le (by simpa using hr)
  exact (e0).symm▸(h _ _ H.done)
 | some row=>
  have hlt:=(List.getElem?_eq_some_iff.mp hr).1
  exists aaN [_,_] H M1.l.isList (afy hr) fun s₂ H=>?_,0,goS 2 F H rfl fun s₂ H=>?_,aa7 ?_,ac8 ?_
  refine abG ?_
  exists dL 1 F H rfl ?_,aeh 2 F H rfl fun s3 t H=>?_
  exists abu (k:=1) ((hm.keeps H.old).rows row (List.mem_of_getElem? hr)) rfl (by decide) ?_,ana H fun s3 t H=>?_,sL 1 F H rfl fun s3 H=>?_,aaL ?_
  refine⟨m.rows.length - (i+1),by exact q1 ‹_› ‹_›,i+1,some (.ref row.a),t,rfl,hlt,?_⟩
  exact (alz hr)▸(H)
noncomputable def cmE (s:Stmt):Expr:=(sP s).e
noncomputable def lE (e:Expr):Expr:=(xP e).e
noncomputable def lG (e:Expr):Comprehension:=(xP e).g
noncomputable def lS (e:Expr):Scope:=(xP e).c
noncomputable def lP (e:Expr):Pos:=(xP e).p
noncomputable def aqj:Expr:=cmE (at' (aaa (D2 3 6)) 0)
inductive amO (m:Ms) (cenv env:Env) (w:World) (s:Shared) (acc it:Addr) (n:Nat) (s':Shared):Prop
 | mk (i vr D vs):n=m.rows.length - i→i≤m.rows.length→vs.size=i→RDs D vs.toList ((m.rows.take i).map fun r=>pD (r.k,r.c))→aa0 s' (aa1 cenv.locals (aal [".0", "row"] [none,vr])::aa1 env.locals (aal ao2 [some (.ref m.x)])::aa5 w aaD aaD s::aa2 acc vs::abx it m.l i::fzR D::[])→amO m cenv env w s acc it n s'
inductive amp (m:Ms) (cenv env:Env) (w:World) (s:Shared) (acc:Addr) (s':Shared):Prop
 | mk (vr D vs):RDs D vs.toList (m.abs.map pD)→aa0 s' (aa1 cenv.locals (aal [".0", "row"] [none,vr])::aa1 env.locals (aal ao2 [some (.ref m.x)])::aa5 w aaD aaD s::aa2 acc vs::emp::fzR D::[])→amp m cenv env w s acc s'
theorem aom {w:World}{A:Around}{s:Shared}{m:Ms}{Q:Value→Shared→Prop}(r:aah A 1 3) (B:Bs w s.heap) (hm:afS m s.heap) (hn:m.rows.length≤100) (h:∀ s' v D,acr (fzR D) s s'→RD D v (msD m.abs)→Q v s') :
  WP w A (call (.ref 116) [.ref m.x]) Q s:=by
 exists adi (d:=0) (u:=0) (vs:=[some _]) asX r B (aa0.start B) rfl (BindsTo.of_eq (by kernel_rfl)) (lb rfl) rfl fun A' env s₁ r' F H=>?_
 have M1:=hm.keeps H.old
 exists aa7 ?_
 refine agD ?_
 exists agq F aap.nil [".0", "row"] [] ?_
 refine acF ?_
 exists dL 0 F H rfl ?_
 refine adg H.bs M1.x M1.att ?_
 refine ?_
 replace H:=H.keep (aab (s₁.toks+1))
 exists aaM M1.l.isList H fun s₂ it H=>?_
 refine⟨_,_,_,H,fun cenv acc s3 Fc Cc H=>?_⟩
 refine abj [_,_,_,_] H ?_
 refine CP.mono (abb (elt:=lE aqj) (target:=(lG aqj).target) (iter:=(lG aqj).iter) (ifs:=[]) (scope:=lS aqj) (pos:=lP aqj) (amO m cenv env w s acc it) (amp m cenv env w s acc) (fun n s' hI=>?_) _ ⟨0,none,[],#[],rfl,Nat.zero_le _,rfl,.nil,H.fzNew [_,_,_,_,_]⟩) (fun f s4' ⟨_,vr,D,vs,hd,H⟩=>⟨_,_,H,fun s5 H=>?_⟩)
 ·obtain⟨i,vr,D,vs,e,hi,hz,hd,H⟩:=hI
  have M1:=hm.keeps (aa0.old (H.cut 1))
  cases hr:m.rows[i]? with
  | none=>
   exists abF [_,_,_,_] r'.handled H M1.l.isList (adP hr) fun s₂ H=>?_
   refine⟨vr,D,vs,?_,H⟩
   have e0:m.rows.take i=m.rows:=List.take_of_length_le (by simpa using hr)
   rw[e0] at hd
   unfold Ms.abs
   rw[List.map_map]; exact hd
  | some row=>
   have hlt:=(List.getElem?_eq_some_iff.mp hr).1
   exists aaN [_,_,_,_] H M1.l.isList (afy hr) fun s₂ H=>?_,0,goS 1 Fc H rfl fun s₂ H=>?_,ael ?_,aa3 ?_,aeh 1 Fc H rfl fun s3 t H=>?_,0
   have M2:=(hm.keeps (aa0.old (H.cut 1))).rows row (List.mem_of_getElem? hr)
   exists abu (k:=0) M2 rfl (by decide) ?_,aa3 ?_,aeh 1 Fc H rfl fun s3 t H=>?_
   exists abu (k:=1) ((hm.keeps (aa0.old (H.cut 1))).rows row (List.mem_of_getElem? hr)) rfl (by decide) ?_,aa6 ⟨_,_,_,H,aam,fun s4' a H=>?_⟩
   exists abE [_,_,_,_] H (by exact q33 ‹_› ‹_› ‹_›) fun s5 H=>?_
   refine⟨m.rows.length - (i+1),by exact q1 ‹_› ‹_›,i+1,_,_,_,rfl,hlt,by rw[Array.size_push,hz],?_,(aa0.fzAdd [_,_,_,_,_] ⟨true,a,#[.int row.k row.tk,.int row.c row.tc]⟩ (H.pick [0,1,3,4,5,6,2] 7))⟩
   simp only[List.take_add_one,hr,Array.toList_push,Option.toList_some,List.map_append]
   exact RDs.append (hd.mono fun f m=>.tail _ m) (.cons (.tuple (.head _) (.cons (.int _ _) (.cons (.int _ _) .nil))) .nil)
 ·have H2:=aa0.fzAdd [_,_] ⟨false,acc,vs⟩ (H.pick [0,1,4,2,3] 5)
  exact h _ _ _ (aa0.out H2) (.list (.head _) (hd.mono fun f m=>.tail _ m))
end
noncomputable def au5 (s:Stmt):Expr:=(sP s).e
noncomputable def adU (s:Stmt):List Stmt:=(sP s).b
noncomputable def FO:Stmt:=at' (aaa (D 11)) 6
noncomputable def FI:Stmt:=at' (adU FO) 1
noncomputable abbrev adK (S:Stmt) (it:Value) (env:Env):Code:=.forLoop (au5 S) it (adU S) [] env
theorem apQ {w:World}{env:Env}{k1 k2:Result→Sem PySem.Fin}{l1 l2:List Value}{p1 p2:Pos}{cO cB:Code}{Kr:Res}{a:Addr}{g:Nat}(F:aa8 env acA ai9) (hco:env.scope.isCoroutine=false) (hKr:∀ g,Kr.gp g→True) (c0:Int) (t0:Tok) (v0 v1 v2 v4 v5:Option Value) {rest:List (List Int)}
  (hr:∀ A,aah A 30 130→aah (A.over (adK FI (.ref a) env) [.ret k2 none false l2 cO p2 [],.ret k1 none false l1 cB p1 []]) 25 110)
  (hend:∀ A,aah A 30 130→∀ R0' s0 s L v6,abq L→aa0 s (aa1 env.locals (aal acA [v0,v1,v2,some (.int c0 t0),v4,v5,v6])::aa5 w (aae [R0',emp]).fp (aae [R0',emp]).gp s0::Kr::emp::L)→
   GP w A cO [.ret k1 none false l1 cB p1 []] (k2 (.ok .next)) (PR dS rest R0' () s0) (PY w 30 130 dS rest R0' () s0) s) :
  ∀ (os:List (List Int)) gs R,(∀ o∈os,o≠[]∧o.length≤10)→aaq w 20 90 dS os gs R→∀ A,aah A 30 130→∀ R0' s0 s L v6,abq L→
   aa0 s (aa1 env.locals (aal acA [v0,v1,v2,some (.int c0 t0),v4,v5,v6])::aa5 w (aae [R0',emp]).fp (aae [R0',emp]).gp s0::([Kr]++([aak a g false gs,R,emp]++L)))→
   GP w A (adK FI (.ref a) env) [.ret k2 none false l2 cO p2 [],.ret k1 none false l1 cB p1 []] ((model pw w).den (adK FI (.ref a) env)) (PR dS (os.map (c0::·)++rest) R0' () s0) (PY w 30 130 dS (os.map (c0::·)++rest) R0' () s0) s:=by
 intro os
 induction os with
 | nil=>
  intro gs R hne G A r R0' s0 s L v6 hL H
  exists aen ?_,agB (S:=dS) (x:=()) (d:=20) (u:=90) [Kr] ((hr A r).mono (by exact lb rfl) (by exact lb rfl)) G H fun s' H'=>?_
  exact aeq _ (hend A r _ _ _ _ _ hL H')
 | cons o os ih=>
  intro gs R hne G A r R0' s0 s L v6 hL H
  exists 0,aen ?_,aeH (S:=dS) (x:=()) (d:=20) (u:=90) [Kr] ((hr A r).mono (by exact lb rfl) (by exact lb rfl)) G H fun v gs' R' RY y s' ho hG H=>?_
  obtain⟨t,vs,rfl,rfl,hi⟩:=ho
  cases y
  exists goS 6 F H rfl fun s H=>?_
  have hv:vs≠[]:=fun e=>(hne o (.head _)).1 (by subst e; cases hi; rfl)
  have hlen:vs.length≤10:=by rw[hi.length]; exact (hne o (.head _)).2
  exists abe ?_,abn rfl rfl rfl hco F.inter ?_
  refine abG ?_
  exists ael ?_
  refine spL 3 F H rfl ?_
  exists aa6 ⟨_,_,_,H,aam,fun s t1 H=>?_⟩
  exists dL 6 F H rfl ?_,arQ (vs:=[.int c0 t0]) (ws:=vs) [] [] H (H.at [_,_]) (H.at [_,_,_,_,_,_]) (by simp) hv (by simp; lia) fun s t2 H=>?_
  intro gs2 hgs
  have H2:=((((H.front [_]).front [_,_]).back [_,_,_,_,_,_]).front [_,_]).back [_,_,_,_,_,_,_,_]
  have H3:=(H2.front [_,_,_,_,_,_]).back [_,_,_,_,_,_,_]
  have H4:=H3.fold [_,_,_,_]
  have H5:=H4.fold [_,_,_]
  refine⟨_,_,(),⟨t2,[Value.int c0 t0]++vs,rfl,rfl,IntsAre.cons c0 t0 hi⟩,trivial,aaq.of (H4.freeK [] []) fun A' rA u s3 HH=>?_,H5.turn ⟨fun J z=>z,fun J z=>z,hL⟩⟩
  have HH2:=aa0.sep.mp (HH.front [_])
  have HH3:=(HH2.front [_,_,_,_]).front [_]
  exact hgs A' _ _ s3 (abA rfl (ih gs' R' (fun o m=>hne o (.tail _ m)) hG A' rA _ s3 s3 [] _ trivial HH3))
noncomputable def asV (s:Stmt):Expr:=(sP s).e
noncomputable def lcE (s:Stmt):Expr:=(xP (asV s)).e
noncomputable def lcC (s:Stmt):Comprehension:=(xP (asV s)).g
noncomputable def lcT (s:Stmt):Expr:=(lcC s).target
noncomputable def lcI (s:Stmt):Expr:=(lcC s).iter
noncomputable def lcS (s:Stmt):Scope:=(xP (asV s)).c
noncomputable def lcP (s:Stmt):Pos:=(xP (asV s)).p
inductive aqU (cenv:Env) (R0:Res) (w:World) (fp:Addr→Prop) (gp:Nat→Prop) (s0:Shared) (acc it b':Addr) (x y:Int) (T:List Res) (n:Nat) (s:Shared):Prop
 | a (vc):n=2→aa0 s (aa1 cenv.locals (aal [".0", "c"] [none,vc])::R0::aa5 w fp gp s0::aa2 acc #[]::aiT it b' 0::T)→aqU cenv R0 w fp gp s0 acc it b' x y T n s
 | b (vc u1):n=1→aa0 s (aa1 cenv.locals (aal [".0", "c"] [none,vc])::R0::aa5 w fp gp s0::aa2 acc #[.int x u1]::aiT it b' 1::T)→aqU cenv R0 w fp gp s0 acc it b' x y T n s
 | c (vc u1 u2):n=0→aa0 s (aa1 cenv.locals (aal [".0", "c"] [none,vc])::R0::aa5 w fp gp s0::aa2 acc #[.int x u1,.int y u2]::aiT it b' 2::T)→aqU cenv R0 w fp gp s0 acc it b' x y T n s
inductive ate (cenv:Env) (R0:Res) (w:World) (fp:Addr→Prop) (gp:Nat→Prop) (s0:Shared) (acc:Addr) (x y:Int) (T:List Res) (s:Shared):Prop
 | mk (vc u1 u2):aa0 s (aa1 cenv.locals (aal [".0", "c"] [none,vc])::R0::aa5 w fp gp s0::aa2 acc #[.int x u1,.int y u2]::emp::T)→ate cenv R0 w fp gp s0 acc x y T s
theorem asp {w:World}{A:Around}{s:Shared}{env:Env}{a b c g:Nat}{ta tb tc tg:Tok}{t:Addr}{v0 v2 v3 v4 v5 v6:Option Value}{L:List Res}{fp:Addr→Prop}{gp:Nat→Prop}{s0:Shared}{Q:Flow→Shared→Prop}(hh:A.handled=none)
  (F:aa8 env acA ai9) (C:aap env .cell ["remainder_gcd"] (abT env.locals 1)) (hg:0<g) (hg2:g≤1000)
  (H:aa0 s (aa1 env.locals (aal acA [v0,some (.ref t),v2,v3,v4,v5,v6])::aa5 w fp gp s0::aai (env.locals+1:Nat) (some (.int g tg))::ac5 t #[.int a ta,.int b tb,.int c tc]::L))
  (h:∀ s' l u1 u2 t2,aa0 s' (aa1 env.locals (aal acA [v0,some (.ref t),v2,v3,v4,some (.ref l),v6])::aa5 w fp gp s0::aa2 l #[.int ((b / g:Nat):Int) u1,.int ((c / g:Nat):Int) u2]::t2::aai (env.locals+1:Nat) (some (.int g tg))::ac5 t #[.int a ta,.int b tb,.int c tc]::L)→(∀ g,t2.gp g→False)→Q .next s') :
  WP w A (exec (at' (adU FO) 0) env) Q s:=by
 exists ahj 5 F C [".0", "c"] [] ?_
 refine aji ?_
 exists dL 1 F H rfl ⟨t,_,_,_,[_],_,rfl,H,lb rfl,lb rfl,lb rfl,fun J=>rfl,fun s b' H=>?_⟩
 exists amS [] H fun s it H=>?_
 refine⟨_,_,_,H,fun cenv acc s3 Fc Cc H=>?_⟩
 generalize hT:ac5 t #[.int a ta,.int b tb,.int c tc]::L=T1 at H h
 generalize hR:aa1 env.locals (aal acA [v0,some (.ref t),v2,v3,v4,v5,v6])=R0 at H
 have lp:=fun s=>abb (s:=s) (w:=w) (A:=A) (elt:=lcE (at' (adU FO) 0)) (target:=lcT (at' (adU FO) 0)) (iter:=lcI (at' (adU FO) 0)) (ifs:=[]) (scope:=lcS (at' (adU FO) 0)) (pos:=lcP (at' (adU FO) 0)) (it:=.ref it) (acc:=.ref acc) (cenv:=cenv)
  (aqU cenv R0 w fp gp s0 acc it b' ((b / g:Nat):Int) ((c / g:Nat):Int) (ac5 b' #[.int b tb,.int c tc]::aai (env.locals+1:Nat) (some (.int g tg))::T1))
  (ate cenv R0 w fp gp s0 acc ((b / g:Nat):Int) ((c / g:Nat):Int) (ac5 b' #[.int b tb,.int c tc]::aai (env.locals+1:Nat) (some (.int g tg))::T1)) (fun n s x=>?_)
 ·have lq:=CP.mono (lp s3 2 (.a _ rfl H)) (P':=fun J s4'=>∃ m L',aa0 s4' (aa1 cenv.locals m::L')∧WP w A (storeName env "new_coeffs" (.ref acc)) (fun J s6=>∃ m2' L2,aa0 s6 (aa1 cenv.locals m2'::L2)∧∀ s7,aa0 s7 L2→Q .next s7) s4') fun f s4' y=>by
   obtain⟨vc,u1,u2,H4⟩:=y.2
   subst hR
   exact⟨_,_,H4,sL 5 F (H4.front [_]) rfl fun s5 H5=>⟨_,_,H5.front [_],fun s7 H7=>h s7 acc u1 u2 _ (H7.drop [_,_,_] (R:=emp) fun J J z=>z.elim) fun J z=>z⟩⟩
  exact ad4 lq (.of (wpAny_pyIter_tupleiter (H.at [_,_,_,_]) lq))
 ·rcases x with⟨vc,rfl,H⟩ | ⟨vc,u1,rfl,H⟩ | ⟨vc,u1,u2,rfl,H⟩
  ·exists amt [_,_,_,_] H (H.at [_,_,_,_,_]) rfl fun s H=>?_,0,goS 1 Fc H rfl fun s H=>?_,abG ?_,dL 1 Fc H rfl ?_,dLC [_,_,_,_,_,_] 0 Fc Cc H ?_,aiI H (by exact q76 ‹_› ‹_›) (by exact q51 ‹_› ‹_›) fun s u H=>?_
   rw[acf]
   exists abE [_,_,_] H (by decide) fun s H=>?_
   refine⟨1,by decide,.b _ u rfl H⟩
  ·exists amt [_,_,_,_] H (H.at [_,_,_,_,_]) rfl fun s H=>?_,goS 1 Fc H rfl fun s H=>?_,abG ?_,dL 1 Fc H rfl ?_,dLC [_,_,_,_,_,_] 0 Fc Cc H ?_,aiI H (by exact q76 ‹_› ‹_›) (by exact q51 ‹_› ‹_›) fun s u H=>?_
   rw[acf]
   exists abE [_,_,_] H (lb rfl) fun s H=>?_
   refine⟨0,by decide,.c _ u1 u rfl H⟩
  ·exists ant [_,_,_,_] hh H (H.at [_,_,_,_,_]) rfl fun s H=>?_
   refine⟨vc,u1,u2,H⟩
theorem apb {w:World}{env:Env}{k1:Result→Sem PySem.Fin}{l1:List Value}{p1:Pos}{body:List Stmt}{bg:Addr}{g0:Nat}(F:aa8 env acA ai9) (C:aap env .cell ["remainder_gcd"] (abT env.locals 1)) (hco:env.scope.isCoroutine=false)
  {a b c g:Nat} {ta tb tc tg:Tok} {t:Addr} (v0 v2:Option Value) (hg:0<g) (hg2:g≤1000) (hb:0<b / g) (hc:0<c / g) (hb2:b / g≤1000) (hc2:c / g≤10)
  (hend:∀ A,aah A 30 130→∀ R0' s0 s L v3 v4 v5 v6,abq L→aa0 s (aa1 env.locals (aal acA [v0,some (.ref t),v2,v3,v4,v5,v6])::aa5 w (aae [R0',emp]).fp (aae [R0',emp]).gp s0::emp::L)→
   GP w A (.func body env) [] (k1 (.ok .next)) (PR dS [] R0' () s0) (PY w 30 130 dS [] R0' () s0) s) :
  ∀ (os:List (Int × Int)) gs R,(∀ o∈os,0≤o.2∧o.2≤1000)→aaq w 13 63 bS os gs R→∀ A,aah A 30 130→∀ R0' s0 s L v3 v4 v5 v6,abq L→
   aa0 s (aa1 env.locals (aal acA [v0,some (.ref t),v2,v3,v4,v5,v6])::aa5 w (aae [R0',emp]).fp (aae [R0',emp]).gp s0::([aai (env.locals+1:Nat) (some (.int g tg)),ac5 t #[.int a ta,.int b tb,.int c tc]]++([aak bg g0 false gs,R,emp]++L)))→
   GP w A (adK FO (.ref bg) env) [.ret k1 none false l1 (.func body env) p1 []] ((model pw w).den (adK FO (.ref bg) env)) (PR dS (os.flatMap fun o=>(afq (b / g) (c / g) o.2.toNat).map (o.1::·)) R0' () s0)
    (PY w 30 130 dS (os.flatMap fun o=>(afq (b / g) (c / g) o.2.toNat).map (o.1::·)) R0' () s0) s:=by
 intro os
 induction os with
 | nil=>
  intro gs R hne G A r R0' s0 s L v3 v4 v5 v6 hL H
  have r':aah (A.over (adK FO (.ref bg) env) [.ret k1 none false l1 (.func body env) p1 []]) 29 127:=r.over
  exists aen ?_,agB (S:=bS) (x:=()) (d:=13) (u:=63) [_,_] (r'.mono (by exact lb rfl) (by exact lb rfl)) G H fun s' H'=>?_
  have H2:=(H'.front [_,_,_,_]).back [_,_]
  exists aeq _ (hend A r _ _ _ _ _ _ _ _ ?_ H2)
  exact⟨fun J z=>z,fun J z=>z,hL⟩
 | cons o os ih=>
  intro gs R hne G A r R0' s0 s L v3 v4 v5 v6 hL H
  have r':aah (A.over (adK FO (.ref bg) env) [.ret k1 none false l1 (.func body env) p1 []]) 29 127:=r.over
  exists 0,aen ?_,aeH (S:=bS) (x:=()) (d:=13) (u:=63) [_,_] (r'.mono (by exact lb rfl) (by exact lb rfl)) G H fun v gs' R' RY y s' ho hG H=>?_
  obtain⟨tq,tx,ty,rfl,rfl⟩:=ho
  exists aqE (H.at [_,_,_,_]).1 ?_,aqT [_,_,_,_,_,_] r'.handled H fun s H=>?_
  refine aa0.lt H ?_; intro T' H
  exists aaV ?_,aS 3 F H rfl fun s H=>?_,aaV ?_,aS 4 F H rfl fun s H=>?_,aiL ?_,gCW ?_
  refine asp (v3:=some (.int o.1 tx)) (v4:=some (.int o.2 ty)) r'.handled F C hg hg2 H fun s l u1 u2 t2 H ht2=>?_
  obtain⟨hn1,hn2⟩:=hne o (.head _)
  obtain⟨o1,o2⟩:=o
  obtain⟨n,rfl⟩:=Int.eq_ofNat_of_zero_le hn1
  dsimp only at *
  exists 0,abe ?_,aq3 ?_,acB 4 8 F aqY.obj H ?_,spL 4 F H rfl ?_,ah0 ?_,dL 5 F H rfl ⟨l,_,[_,_],_,rfl,H,aam,fun s H=>aa6 ⟨H.bs,aiY (r'.mono (by exact lb rfl) (by exact lb rfl)) H.bs hb hc hb2 hc2 (by lia) fun a2 g2 gs2 R2 s' m G2=>?_⟩⟩
  replace H:=H.made m
  exists 0,adt m.p.1.1 fun p2 k2 l2 hk2=>?_
  replace H:=aa0.sep.mp (H.pick [2,0,1] 3)
  replace H:=aa0.pick [1,2,0] 3 (aa0.sep (L:=[_,_,_,_,_,_,_]).mpr (H.pick [4,5,6,7,8,9,10,2,3,0,1,11] 12))
  have e:(((o1,(n:Int))::os).flatMap fun o=>(afq (b / g) (c / g) o.2.toNat).map (o.1::·))=(afq (b / g) (c / g) n).map (o1::·)++os.flatMap fun o=>(afq (b / g) (c / g) o.2.toNat).map (o.1::·):=by
   rw[List.flatMap_cons]; rfl
  refine apQ (k1:=k1) (k2:=k2) (l1:=l1) (l2:=l2) (p1:=p1) (p2:=p2) (cO:=adK FO (.ref bg) env) (cB:=.func body env) F hco (fun J J=>trivial) o1 tx _ _ _ _ _ (fun A r=>aah.over2 (dd:=1) (uu:=3) (d:=29) (u:=127) r rfl rfl rfl |>.mono (by exact lb rfl) (by exact lb rfl)) (fun A r R0' s0 s L v6 hL H=>?_) _ gs2 R2 (fun o m=>?_) G2 A r R0' s0 _ L _ hL H
  ·rw[hk2]
   exists abK ?_,abA rfl ?_
   exact ih gs' R' (fun o m=>hne o (.tail _ m)) hG A r R0' s0 s (_::_::_::L) _ _ _ _ ⟨fun J z=>z,ht2,fun J z=>z,hL⟩ (aa0.pick [7,8,2,3,4,5,9,0,1,6] 10 (aa0.sep.mp (H.pick [2,0,1] 3)))
  ·obtain⟨x,mx,rfl⟩:=List.mem_map.mp m
   exact⟨by simp,lb rfl⟩
theorem ajc:∀ b∈[1,2,3],∀ c∈[1,2,3],Nat.gcd b c∈[1,2,3]∧0<b / Nat.gcd b c∧0<c / Nat.gcd b c∧b / Nat.gcd b c≤10∧c / Nat.gcd b c≤10:=by decide
theorem abd:∀ b∈[1,2,3],0<b∧b≤10:=by decide
theorem aot {w:World}{A:Around}{s:Shared}{n a b c:Nat}{tn ta tb tc:Tok}{Q:Value→Shared→Prop}(r:aah A 1 3) (B:Bs w s.heap) (ha:a∈[1,2,3]) (hb:b∈[1,2,3]) (hc:c∈[1,2,3]) (hn:n∈List.range 5)
  (h:∀ a' g gs R s',acr (aae [aak a' g false gs,R]) s s'→aaq w 30 130 dS (akI a b c n) gs R→Q (.ref a') s'):WP w A (call (.ref 304) [.int n tn,.int a ta,.int b tb,.int c tc]) Q s:=by
 obtain⟨hg,g1,g2,g3,g4⟩:=ajc b hb c hc
 have hgs:=abd _ hg
 have has:=abd _ ha
 have hn':n≤4:=by have:=List.mem_range.mp hn; lia
 exists amh (d:=0) (u:=0) (n0 := "total") (n1 := "coeffs") aqY r B rfl (aiS _ _ _ _) aam fun env a' g t s' F C hco m=>?_
 refine h a' g _ _ s' (aeV m) (aaq.of (((aeV m).freeK B).of _ (.tail _ (.head _))) fun A r u s H=>?_)
 have H1:=aa0.sep.mp (H.front [_])
 have H2:=aa0.sep.mp H1
 have H:aa0 s (aa1 env.locals (aal acA [some (.int n tn),some (.ref t),none,none,none,none,none])::_::aai (env.locals+1:Nat) none::ac5 t #[.int a ta,.int b tb,.int c tc]::emp::[]):=(H2.front [_,_,_]).front [_]
 clear H1 H2
 have F':aa8 env acA ai9:=F
 have R':aah (A.over (.func (aaa (D 11)) env) []) 29 127:=r.over
 exists 0,afj ?_
 refine GP.lt ?_; intro QR' QY'
 exists gCW ?_,akG F' H fun s H=>?_,gCI ?_,abS ?_
 refine aaj 0 2 F' H ?_
 exists spL 1 F' H rfl ?_,aa6 ?_,ag3 [_,_,_] H (lb rfl) fun s u H=>?_
 refine aa0.lt H ?_; intro T' H
 exists aaW H fun s t H=>?_,tEq ?_
 refine ifN ((by simp)) ?_
 exists abK ?_,gCI ?_,abS ?_
 refine aaj 0 2 F' H ?_
 exists spL 1 F' H rfl ?_,aa6 ?_
 refine ag3 [_,_,_] H (lb rfl) fun s u H=>?_
 exists 0,aaW H fun s t H=>?_,tEq ?_
 refine ifN ((by simp)) ?_
 exists abK ?_,gCI ?_,abS ?_
 refine aaj 0 2 F' H ?_
 exists spL 1 F' H rfl ?_,aa6 ?_
 refine ag3 [_,_,_] H (lb rfl) fun s u H=>?_
 exists 0,aaW H fun s t H=>?_,tEq ?_
 refine ifN ((by simp)) ?_
 exists abK ?_,gCW ?_,ac8 ?_,acj 3 1 F' aqZ H ?_,aa3 ?_,aeh 1 F' H rfl fun s u H=>?_,aim (k:=1) [_,_,_] H rfl (by decide) ?_,aa3 ?_,aeh 1 F' H rfl fun s u H=>?_
 refine aim (k:=2) [_,_,_] H rfl (by decide) ?_
 exists aa6 ⟨H.bs,amZ (R'.mono (by exact lb rfl) (by exact lb rfl)) H.bs fun s' t k=>?_⟩
 replace H:=H.keep k
 exists sLC [_,_] 0 F' C H fun s H=>?_,gCW ?_,aem ?_
 refine aji ?_
 exists dL 1 F' H rfl ⟨_,_,_,_,[_],_,rfl,H,lb rfl,lb rfl,lb rfl,fun J=>rfl,fun s b' H=>?_⟩
 exists amS [] H fun s it H=>?_,abB (I:=fun n s'=>n=0∧s'=s) (fun J s' hI=>?_) 0 ⟨rfl,rfl⟩
 obtain⟨_,e⟩:=hI
 subst e
 exists ant [_,_] R'.handled H (H.at [_,_,_]) rfl fun s H=>?_,0,abe ?_,aq3 ?_,acj 2 7 F' arJ H ?_,aa3 ?_,aeh 1 F' H rfl fun s u H=>?_,aim (k:=0) [_,_,_,_,_] H rfl (by decide) ?_
 refine aa3 ?_
 exists dLC [_,_,_,_] 0 F' C H ?_
 refine spL 0 F' H rfl ?_
 exists aa6 ⟨H.bs,amk (R'.mono (by exact lb rfl) (by exact lb rfl)) H.bs has.1 hgs.1 (by exact q62 ‹_›) hgs.2 (by lia) fun b' g' gs' R₁ s' m G=>?_⟩
 replace H:=H.made m
 exists adt m.p.1.1 fun p k' l hk=>?_
 replace H:=aa0.pick [2,3,6,7,0,1,8,4,5] 9 (aa0.sep.mp (H.pick [2,0,1] 3))
 have y:=apb (k1:=k') (l1:=l) (p1:=p) (body:=aaa (D 11)) F' C hco (some (.int n tn)) none hgs.1 (by exact q62 ‹_›) g1 g2 (by exact q77 ‹_›) g4 (fun A r R0' s0 s L v3 v4 v5 v6 hL H=>?_) _ gs' R₁ (fun o m=>by have:=ajh n hn a ha _ hg o m; lia) G A r _ _ _ [_,_] _ _ _ _ ⟨fun J z=>z,fun J z=>z,trivial⟩ H
 ·exact y
 ·rw[hk]
  exists afm ⟨_,_,⟨fun J z=>z,trivial⟩,trivial,rfl,((H.front [_]).fold [_,_]).turn hL⟩
section
open Builtin Builtin.ObjectAttr
noncomputable def agi:List (Int × Int)→Int→Int→List (Int × Int)
 | [],_,_=>[]
 | p::r,k,c=>if p.1=k then (p.1,c)::r else p::agi r k c
noncomputable def upd (l:List (Int × Int)) (k c:Int):List (Int × Int):=
 if l.any (fun p=>p.1==k) then (if c≤0 then (agi l k c).filter (fun p=>decide (0<p.2)) else agi l k c) else if 0<c then l++[(k,c)] else l
noncomputable def aaz (rows:List Row):Array Value:=(rows.map fun r=>Value.ref r.a).toArray
noncomputable def acS (rows:List Row):Res:=aae (rows.map ad1)
noncomputable def abC (rows:List Row):List (Int × Int):=rows.map fun r=>(r.k,r.c)
theorem ahB (rows:List Row):∀ g,(acS rows).gp g→False:=fun g ⟨R,m,x⟩=>by
 obtain⟨f,_,rfl⟩:=List.mem_map.mp m
 exact x
theorem aaf.sub {s:Shared}{L M:List Res}(h:M.Sublist L):aaf s L→aaf s M:=by
 induction h with
 | slnil=>exact id
 | cons _ _ ih=>exact fun x=>ih x.2.2
 | cons_cons _ h ih=>exact fun x=>⟨x.1,fun R m=>x.2.1 R (h.subset m),ih x.2.2⟩
section
variable {s:Shared}{L:List Res}
theorem aa0.rowsSub {rows rows':List Row}(M:List Res) (H:aa0 s (M++acS rows::L)) (h:rows'.Sublist rows):aa0 s (M++acS rows'::L):=
 H.updAt M (.of (fun J J J e=>e) rfl rfl (aaf.sub (h.map ad1) (H.at M)) (fun b ⟨R,m,x⟩=>.inl ⟨R,(h.map ad1).subset m,x⟩) (ahB _) (ahB _))
theorem aa0.rowAt {rows:List Row}{i:Nat}{row:Row}(M:List Res) (h:rows[i]? = some row) (H:aa0 s (M++acS rows::L)):aa0 s ((rows.take i).map ad1++ad1 row::((rows.drop (i+1)).map ad1++(M++L))):=by
 have hlt:=(List.getElem?_eq_some_iff.mp h).1
 have he:rows[i] = row:=by rw[List.getElem?_eq_getElem hlt] at h; exact Option.some.inj h
 have h1:aa0 s (rows.map ad1++(M++L)):=aa0.sep.mp (H.front M)
 have e:rows.map ad1=(rows.take i).map ad1++ad1 row::(rows.drop (i+1)).map ad1:=by
  conv=>lhs; rw[← List.take_append_drop i rows,List.drop_eq_getElem_cons hlt,he]
  simp
 rw[e,List.append_assoc] at h1
 exact h1
theorem aa0.rowBack {rows:List Row}{i:Nat}{row:Row}(M:List Res) (hlt:i<rows.length) (H:aa0 s ((rows.take i).map ad1++ad1 row::((rows.drop (i+1)).map ad1++(M++L)))):aa0 s (M++acS (rows.set i row)::L):=by
 have e:(rows.set i row).map ad1=(rows.take i).map ad1++ad1 row::(rows.drop (i+1)).map ad1:=by
  rw[List.set_eq_take_append_cons_drop,if_pos hlt]; simp
 have h1:aa0 s ((rows.set i row).map ad1++(M++L)):=by
  rw[e,List.append_assoc]; exact H
 exact aa0.back M (aa0.sep.mpr h1)
theorem aa0.rowNew {rows:List Row}{row:Row}(M:List Res) (H:aa0 s (M++acS rows::ad1 row::L)):aa0 s (M++acS (rows++[row])::L):=by
 have h1:aa0 s (rows.map ad1++(M++ad1 row::L)):=aa0.sep.mp (H.front M)
 have h2:aa0 s ((rows++[row]).map ad1++(M++L)):=h1.perm (by
  rw[List.map_append,List.append_assoc]
  exact List.Perm.append_left _ List.perm_middle)
 exact aa0.back M (aa0.sep.mpr h2)
end
theorem aon {rows:List Row} {k c:Int} {tc:Tok}:∀ {i:Nat} {row:Row},rows[i]? = some row→row.k=k→(∀ r∈rows.take i,r.k≠k)→agi (abC rows) k c=abC (rows.set i { row with c:=c,tc:=tc }):=by
 induction rows with
 | nil=>intro i row h; simp at h
 | cons r rows ih=>
  intro i row h hk hi
  cases i with
  | zero=>
   simp at h
   subst h
   show (if r.k=k then (r.k,c)::abC rows else _)=_
   rw[if_pos hk]; rfl
  | succ i=>
   show (if r.k=k then (r.k,c)::abC rows else (r.k,r.c)::agi (abC rows) k c)=_
   rw[if_neg (hi r (by simp)),ih (by simpa using h) hk fun r m=>hi r (by simp[m])]; rfl
theorem ap5 {rows:List Row}{k:Int}{i:Nat}{row:Row}(h:rows[i]? = some row) (hk:row.k=k):(abC rows).any (fun p=>p.1==k)=true:=by
 unfold abC
 rw[List.any_map,List.any_eq_true]
 exact⟨row,List.mem_of_getElem? h,by simpa using hk⟩
theorem al2 {rows:List Row}{k:Int}(h:∀ r∈rows,r.k≠k):(abC rows).any (fun p=>p.1==k)=false:=by
 unfold abC
 rw[List.any_map,List.any_eq_false]
 intro r m
 simpa using h r m
theorem ai7 (rows:List Row):(abC rows).filter (fun p=>decide (0<p.2))=abC (rows.filter fun r=>decide (0<r.c)):=by
 unfold abC; rw[List.filter_map]; rfl
noncomputable def S90:Stmt:=at' (ifB (at' (ifB (at' (adU (at' (aaa (D2 3 2)) 0)) 0)) 1)) 0
noncomputable def asE (s:Stmt):Expr:=(sP s).e
noncomputable def E90:Expr:=asE S90
inductive aqI (rows:List Row) (cenv env:Env) (x:Addr) (v1 v2 v3:Option Value) (w:World) (fp:Addr→Prop) (gp:Nat→Prop) (s0:Shared) (acc it l dx:Addr) (L:List Res) (n:Nat) (s':Shared):Prop
 | mk (i vr):n=rows.length - i→i≤rows.length→aa0 s' (aa1 cenv.locals (aal [".0", "other"] [none,vr])::aa1 env.locals (aal aoo [some (.ref x),v1,v2,v3])::aa5 w fp gp s0::aa2 acc (aaz ((rows.take i).filter fun r=>decide (0<r.c)))::abx it l i::acG x 178 dx::ah4 dx l::aa2 l (aaz rows)::acS rows::L)→aqI rows cenv env x v1 v2 v3 w fp gp s0 acc it l dx L n s'
inductive aqa (cenv env:Env) (x:Addr) (v1 v2 v3:Option Value) (w:World) (fp:Addr→Prop) (gp:Nat→Prop) (s0:Shared) (acc:Addr) (rows:List Row) (dx l:Addr) (L:List Res) (s':Shared):Prop
 | mk (vr):aa0 s' (aa1 cenv.locals (aal [".0", "other"] [none,vr])::aa1 env.locals (aal aoo [some (.ref x),v1,v2,v3])::aa5 w fp gp s0::aa2 acc (aaz (rows.filter fun r=>decide (0<r.c)))::emp::acG x 178 dx::ah4 dx l::aa2 l (aaz rows)::acS rows::L)→aqa cenv env x v1 v2 v3 w fp gp s0 acc rows dx l L s'
theorem apW {w:World}{A:Around}{s s0:Shared}{env:Env}{x dx l:Addr}{rows:List Row}{v1 v2 v3:Option Value}{L:List Res}{fp gp}{Q:Flow→Shared→Prop}(hh:A.handled=none) (F:aa8 env aoo asO) (hn:rows.length≤100)
  (H:aa0 s (aa1 env.locals (aal aoo [some (.ref x),v1,v2,v3])::aa5 w fp gp s0::acG x 178 dx::ah4 dx l::aa2 l (aaz rows)::acS rows::L))
  (h:∀ s' l2,aa0 s' (aa1 env.locals (aal aoo [some (.ref x),v1,v2,v3])::aa5 w fp gp s0::acG x 178 dx::ah4 dx l2::aa2 l2 (aaz (rows.filter fun r=>decide (0<r.c)))::acS (rows.filter fun r=>decide (0<r.c))::aa2 l (aaz rows)::L)→Q .next s') :
  WP w A (exec S90 env) Q s:=by
 exists af7 ?_,agq F aap.nil [".0", "other"] [] ?_
 refine acF ?_
 exists dL 0 F H rfl ?_
 refine adg H.bs (H.at [_,_]) (H.at [_,_,_]) ?_
 refine ?_
 replace H:=H.keep (aab (s.toks+1))
 exists aaM (H.at [_,_,_,_]).isList H fun s₂ it H=>?_
 refine⟨_,_,_,H,fun cenv acc s3 Fc Cc H=>?_⟩
 refine abj [_,_,_,_] H ?_
 refine CP.mono (abb (elt:=lE E90) (target:=(lG E90).target) (iter:=(lG E90).iter) (ifs:=(lG E90).ifs) (scope:=lS E90) (pos:=lP E90) (aqI rows cenv env x v1 v2 v3 w fp gp s0 acc it l dx L) (aqa cenv env x v1 v2 v3 w fp gp s0 acc rows dx l L) (fun n s' hI=>?_) _ ⟨0,none,rfl,Nat.zero_le _,H⟩) (fun f s4' ⟨_,vr,H⟩=>⟨_,_,H,fun s5 H=>?_⟩)
 ·obtain⟨i,vr,e,hi,H⟩:=hI
  cases hr:rows[i]? with
  | none=>
   exists abF [_,_,_,_] hh H (H.at [_,_,_,_,_,_,_]).isList (by unfold aaz; simp at hr ⊢; exact hr) fun s₂ H=>?_
   refine⟨vr,?_⟩
   have e0:rows.take i=rows:=List.take_of_length_le (by simpa using hr)
   rw[e0] at H
   exact H
  | some row=>
   have hlt:=(List.getElem?_eq_some_iff.mp hr).1
   exists aaN [_,_,_,_] H (H.at [_,_,_,_,_,_,_]).isList (x:=.ref row.a) (by unfold aaz; simp[hr]) fun s₂ H=>?_,0,goS 1 Fc H rfl fun s₂ H=>?_
   refine abS ?_
   exists aeh 1 Fc H rfl fun s3 t H=>?_
   have M2:s3.heap.IsList row.a row.items:=aaf.mem (H.at [_,_,_,_,_,_,_,_]) (ad1 row) (List.mem_map_of_mem (List.mem_of_getElem? hr))
   exists abu (k:=1) M2 rfl (by decide) ?_,aaW H fun s3 t H=>?_,dGt ?_,tB ?_
   have e1:rows.take (i+1)=rows.take i++[row]:=by simp only[List.take_add_one,hr]; rfl
   by_cases hc:0<row.c
   ·refine ifP ((by simpa using hc)) ?_
    exists dL 1 Fc H rfl ?_,abE [_,_,_] H (by unfold aaz; simp; have:=List.length_filter_le (fun r:Row=>decide (0<r.c)) (rows.take i); have:=List.length_take_le i rows; lia) fun s5 H=>?_
    refine⟨rows.length - (i+1),by exact q1 ‹_› ‹_›,i+1,some (.ref row.a),rfl,hlt,?_⟩
    have e2:aaz ((rows.take (i+1)).filter fun r=>decide (0<r.c))=(aaz ((rows.take i).filter fun r=>decide (0<r.c))).push (.ref row.a):=by
     rw[e1,List.filter_append,List.filter_cons_of_pos (by simpa using hc)]; unfold aaz; simp
    exact (e2)▸(H)
   ·refine ifN ((by simpa using hc)) ?_
    refine⟨rows.length - (i+1),by exact q1 ‹_› ‹_›,i+1,some (.ref row.a),rfl,hlt,?_⟩
    have e2:(rows.take (i+1)).filter (fun r=>decide (0<r.c))=(rows.take i).filter fun r=>decide (0<r.c):=by
     rw[e1,List.filter_append,List.filter_cons_of_neg (by simpa using hc)]; simp
    exact (e2)▸(H)
 ·exists dL 0 F H rfl ?_
  refine al5 (l:=acc) [_,_,_,_] H.bs H fun s6 H=>?_
  exact h _ acc ((aa0.cut 1 ((H.pick [0,1,4,5,2,7,6,3] 8).pick [7,0,1,2,3,4,5,6] 8)).rowsSub [_,_,_,_,_] List.filter_sublist)
theorem aeP {s:Shared}{m:Ms}{R R₂:Res}{L:List Res}(H:aa0 s (R::R₂::acG m.x 178 m.dx::ah4 m.dx m.l::aa2 m.l (aaz m.rows)::acS m.rows::L)):aa0 s (R::R₂::msR m::L):=
 aa0.pick [1,2,0] 3 ((aa0.sep (L:=[_,_,_,_])).mpr (H.pick [2,3,4,5,0,1] 6))
theorem aqA {s:Shared}{m:Ms}{R R₂:Res}{L:List Res}(H:aa0 s (R::R₂::msR m::L)):aa0 s (R::R₂::acG m.x 178 m.dx::ah4 m.dx m.l::aa2 m.l (aaz m.rows)::acS m.rows::L):=
 aa0.pick [4,5,0,1,2,3] 6 ((aa0.sep (L:=[_,_,_,_])).mp (H.pick [2,0,1] 3))
theorem aoD {rows:List Row}{k c:Int}(h:∀ r∈rows,r.k≠k):upd (abC rows) k c=if 0<c then abC rows++[(k,c)] else abC rows:=by
 unfold upd
 rw[al2 h,if_neg (by simp)]
theorem anQ {rows:List Row}{k c:Int}{tc:Tok}{i:Nat}{row:Row}(h:rows[i]? = some row) (hk:row.k=k) (hi:∀ r∈rows.take i,r.k≠k) :
  upd (abC rows) k c=if c≤0 then abC ((rows.set i { row with c:=c,tc:=tc }).filter fun r=>decide (0<r.c)) else abC (rows.set i { row with c:=c,tc:=tc }):=by
 unfold upd
 rw[ap5 h hk,if_pos rfl,aon (tc:=tc) h hk hi,ai7]
theorem alW {rows:List Row}{i:Nat}{row row':Row}(h:rows[i]? = some row) (ha:row'.a=row.a):aaz (rows.set i row')=aaz rows:=by
 unfold aaz
 rw[List.map_set,ha]
 congr 1
 apply List.ext_getElem?
 intro j
 rw[List.getElem?_set]
 split
 ·rename_i e; subst e
  split
  ·simp[h]
  ·rename_i hn; simp at hn ⊢; have:=(List.getElem?_eq_some_iff.mp h).1; lia
 ·rfl
inductive I90 (rows:List Row) (k:Int) (env:Env) (x:Addr) (tk:Tok) (c:Int) (tc:Tok) (w:World) (dx l:Addr) (s:Shared) (it:Addr) (n:Nat) (s':Shared):Prop
 | mk (i vr):n=rows.length - i→(∀ r∈rows.take i,r.k≠k)→aa0 s' (aa1 env.locals (aal aoo [some (.ref x),some (.int k tk),some (.int c tc),vr])::aa5 w (msR ⟨x,dx,l,rows⟩).fp (msR ⟨x,dx,l,rows⟩).gp s::abx it l i::acG x 178 dx::ah4 dx l::aa2 l (aaz rows)::acS rows::[])→I90 rows k env x tk c tc w dx l s it n s'
theorem akr {w:World}{A:Around}{s:Shared}{m:Ms}{k c:Int}{tk tc:Tok}{Q:Value→Shared→Prop}(r:aah A 1 3) (B:Bs w s.heap) (hm:(msR m).P s) (hf:freeK (msR m)) (hn:m.rows.length≤100)
  (h:∀ s' m',Chg (msR m) (msR m') s s'→m'.x=m.x→m'.abs=upd m.abs k c→Q .none s'):WP w A (call (.ref 90) [.ref m.x,.int k tk,.int c tc]) Q s:=by
 exists adi (d:=0) (u:=0) (vs:=[some _,some _,some _,none]) X90 r B (aa0.startR B hm hf) rfl (BindsTo.of_eq (by kernel_rfl)) (lb rfl) rfl fun A' env s₁ r' F H=>?_
 replace H:=aqA H
 obtain⟨x,dx,l,rows⟩:=m
 dsimp only at *
 exists aa7 ?_,aem ?_
 refine acF ?_
 exists dL 0 F H rfl ?_
 refine adg H.bs (H.at [_,_]) (H.at [_,_,_]) ?_
 refine ?_
 replace H:=H.keep (aab (s₁.toks+1))
 exists aaM (H.at [_,_,_,_]).isList H fun s₂ it H=>?_,abB (I:=I90 rows k env x tk c tc w dx l s it) (fun n s' hI=>?_) _ ⟨0,none,rfl,by simp,H⟩
 obtain⟨i,vr,e,hi,H⟩:=hI
 cases hr:rows[i]? with
 | none=>
  have hi2:rows.take i=rows:=List.take_of_length_le (by simpa using hr)
  rw[hi2] at hi
  exists 0,abF [_,_] r'.handled H (H.at [_,_,_,_,_]).isList (by unfold aaz; simp at hr ⊢; exact hr) fun s₂ H=>?_
  refine aa0.lt H ?_; intro T' H
  replace H:=H.pick [2,0,1,3,4,5,6] 7
  replace H:=H.cut 1
  dsimp only[ac7,ac4,aeA,abV,List.cons_append,List.nil_append,List.append] at H
  exists 0,aa7 ?_,dIf ?_,tLI 2 F H rfl fun s3 t H=>?_,dGt ?_,tB ?_
  have hu:=aoD (c:=c) hi
  by_cases hc:0<c
  ·refine ifP ((by simpa using hc)) ?_
   rw[if_pos hc] at hu
   exists aa7 ?_,afi F.inter ?_,alP ?_,acF ?_,dL 0 F H rfl ?_
   refine adg H.bs (H.at [_,_]) (H.at [_,_,_]) ?_
   replace H:=H.keep (aab (s3.toks+1))
   refine⟨l,_,rfl,H.at [_,_,_,_],?_⟩
   exists ab5 ?_
   refine spL 1 F H rfl ?_
   exists spL 2 F H rfl ?_,aa6 ⟨_,_,_,H,aam,fun s4' a H=>⟨[_,_,_,_,_],_,_,H,by unfold aaz; simp; exact q75 ‹_›,fun s5 H=>aer<|aaL<|aaL ?_⟩⟩
   replace H:=H.pick [0,1,3,4,5,6,2] 7
   dsimp only[ac7,ac4,aeA,abV,List.cons_append,List.nil_append,List.append] at H
   have H3:=(H.weak (R':=ad1 ⟨a,k,tk,c,tc⟩) [_,_,_,_,_,_] fun x=>x.isList).rowNew [_,_,_,_,_]
   have e2:(aaz rows).push (.ref a)=aaz (rows++[Row.mk a k tk c tc]):=by unfold aaz; simp
   rw[e2] at H3
   refine h s5 ⟨x,dx,l,rows++[Row.mk a k tk c tc]⟩ (aa0.outR (aeP H3)) rfl ?_
   show abC (rows++[Row.mk a k tk c tc])=upd (abC rows) k c
   rw[hu]; unfold abC; simp
  ·refine ifN ((fun x=>hc (of_decide_eq_true x))) ?_
   rw[if_neg hc] at hu
   exists aaL ?_,aaL ?_
   exact h s3 ⟨x,dx,l,rows⟩ (aa0.outR (aeP H)) rfl hu.symm
 | some row=>
  have hlt:=(List.getElem?_eq_some_iff.mp hr).1
  exists aaN [_,_] H (H.at [_,_,_,_,_]).isList (x:=.ref row.a) (by unfold aaz; simp[hr]) fun s₂ H=>?_,0,goS 3 F H rfl fun s₂ H=>?_,0,aa7 ?_,dIf ?_,abS ?_,aeh 3 F H rfl fun s3 t H=>?_
  have M2:s3.heap.IsList row.a row.items:=aaf.mem (H.at [_,_,_,_,_,_]) (ad1 row) (List.mem_map_of_mem (List.mem_of_getElem? hr))
  exists abu (k:=0) M2 rfl (by decide) ?_,dL 1 F H rfl ?_,tEq ?_
  by_cases hk:row.k=k
  ·refine ifP ((by simpa using hk)) ?_
   have hu:=anQ (c:=c) (tc:=tc) hr hk hi
   exists aa7 ?_
   refine adm ?_
   exists dL 2 F H rfl ?_,dL 3 F H rfl ?_,aaW H fun s4' t H=>?_
   have H2:=aa0.rowAt (row:=row) [_,_,_,_,_,_] hr H
   exists arr (k:=1) ((rows.take i).map ad1) H2 (by show 1<2; decide) (by decide) fun s5 H3=>?_
   have H:=aa0.rowBack (row:={ row with c:=c,tc:=tc }) [_,_,_,_,_,_] hlt H3
   clear H2 H3
   exists aa7 ?_,dIf ?_,tLI 2 F H rfl fun s6 t H=>?_,dLe ?_,tB ?_
   have er:aaz (rows.set i { row with c:=c,tc:=tc })=aaz rows:=alW hr rfl
   replace H:=H.pick [0,1,3,4,5,6,2] 7
   dsimp only[ac7,ac4,aeA,abV,List.cons_append,List.nil_append,List.append] at H
   by_cases hc:c≤0
   ·refine ifP ((by simpa using hc)) ?_
    rw[if_pos hc] at hu
    rw[← er] at H
    exists aa7 ?_,apW r'.handled F (by simpa using hn) H fun s7 l2 H=>?_,aaL ?_
    refine aa7 ?_
    exists afM ?_
    exact h s7 ⟨x,dx,l2,_⟩ (aa0.outR (aeP H)) rfl hu.symm
   ·refine ifN ((fun x=>hc (of_decide_eq_true x))) ?_
    rw[if_neg hc] at hu
    rw[← er] at H
    exists aaL ?_,aa7 ?_,afM ?_
    exact h s6 ⟨x,dx,l,_⟩ (aa0.outR (aeP H)) rfl hu.symm
  ·refine ifN ((by simpa using hk)) ?_
   exists aaL ?_,aaL ?_
   refine⟨rows.length - (i+1),by exact q1 ‹_› ‹_›,i+1,some (.ref row.a),rfl,fun r hr'=>?_,H⟩
   rw[List.take_add_one,List.mem_append] at hr'
   rcases hr' with hr' | hr'
   ·exact hi r hr'
   ·rw[hr] at hr'
    simp at hr'
    rw[hr']; exact hk
noncomputable def bag (ns:List Int):List (Int × Int):=ns.foldl (fun l k=>upd l k (cnt l k+1)) []
theorem ae5 (l:List (Int × Int)) (k c:Int):(agi l k c).length=l.length:=by
 induction l with
 | nil=>rfl
 | cons p r ih=>unfold agi; split<;>simp[ih]
theorem aix (l:List (Int × Int)) (k c:Int):(upd l k c).length≤l.length+1:=by
 unfold upd
 split
 ·split
  ·have:=List.length_filter_le (fun p:Int × Int=>decide (0<p.2)) (agi l k c)
   simp only[ae5] at this; exact q58 ‹_›
  ·rw[ae5]; exact q48
 ·split<;>simp
theorem Ms.abs_length (m:Ms):m.abs.length=m.rows.length:=by simp[Ms.abs]
theorem at5 (P:Params):isNotIn (K P) "list" 178=true∧isNotIn (K P) "tuple" 178=true∧isNotIn (K P) "str" 178=true:=⟨by kernel_rfl,by kernel_rfl,by kernel_rfl⟩
section
variable {w:World}{A:Around}{s:Shared}{L:List Res}
theorem age {a:Addr}{o:Obj}{T:String}(ho:s.heap.get? a=some o) (hc:o.cls=.type T):∀ M,Looks M s.heap (typeOf (.ref a)) (.type T):=fun M=>hc▸(Looks.ld ho).andThen .now
theorem atL {a:Addr}{items:Array Value}{Q:Value→Shared→Prop}(B:Bs w s.heap) (hl:s.heap.IsList a items) (H:aa0 s L) (h:∀ s',aa0 s' L→Q (.bool false) s'):WP w A (call (.builtin "isinstance") [.ref a,.ref 178]) Q s:=by
 obtain⟨o,ho,hc,_⟩:=hl
 exact .of (isn_call (P:=fun h=>∃ o,h.get? a=some o∧o.cls=.type "list") B.frag (age ho hc) (at5 _).1 (by simp) ⟨o,ho,hc⟩ (fun {_ _ _ _ _ s'} ⟨o,ho,hc⟩ q=>by
  obtain⟨hh,g,d,t,os⟩:=s'
  exact class_attr_list ho hc q) (h _ (H.keep (aab _))))
theorem atn {a:Addr}{items:Array Value}{Q:Value→Shared→Prop}(B:Bs w s.heap) (hl:s.heap.IsTuple a items) (H:aa0 s L) (h:∀ s',aa0 s' L→Q (.bool false) s'):WP w A (call (.builtin "isinstance") [.ref a,.ref 178]) Q s:=by
 obtain⟨o,ho,hc,_⟩:=hl
 exact .of (isn_call (P:=fun h=>∃ o,h.get? a=some o∧o.cls=.type "tuple") B.frag (age ho hc) (at5 _).2.1 (by simp) ⟨o,ho,hc⟩ (fun {_ _ _ _ _ s'} ⟨o,ho,hc⟩ q=>by
  obtain⟨hh,g,d,t,os⟩:=s'
  exact class_attr_tuple ho hc q) (h _ (H.keep (aab _))))
end
theorem ahl {m:Ms}{h:Heap}(x:afS m h):∃ od,PySem.W.InstAt h m.x (instObj 178 m.dx) 178 (some od):=let ⟨hs,tk,n,e⟩:=x.att; ⟨_,afo x.x e⟩
noncomputable def vwO (d:Addr) (items:Array Value) (n:Nat):Obj:={ cls:=.ref 263,dict:=some d,data:=.seq items n }
noncomputable def vwR (v d:Addr) (items:Array Value):Res where
 fp:=fun a=>a=v∨a=d
 gp:=aaD
 P:=fun s=>(∃ n,s.heap.get? v=some (vwO d items n))∧s.heap.get? d=some emptyDict
 live:=fun s ⟨⟨n,e⟩,e'⟩=>⟨fun a x=>by rcases x with rfl | rfl<;>simp_all,fun J z=>z.elim⟩
 loc:=fun s s' ⟨⟨n,e⟩,e'⟩ h J J=>⟨⟨n,h _ _ (.inl rfl) e⟩,h _ _ (.inr rfl) e'⟩
theorem acQ {h:Heap}{v d:Addr}{items:Array Value}{n:Nat}(hx:h.get? v=some (vwO d items n)) (hd:h.get? d=some emptyDict):PySem.W.InstAt h v (vwO d items n) 263 (some emptyDict):=⟨hx,rfl,rfl,hd⟩
structure aua (P:Params):Prop where
 ga:findIn (K P) (.ref 263) "__getattribute__" = some (some (.builtin "tuple.__getattribute__"))
 gat:findIn (K P) (.ref 263) "__getattr__" = some none
 sub:subIn (K P) (.ref 263) (.type "tuple")=some true
 cls:findCls (K P) (.type "tuple") (.type "type") "__getitem__" = some (.val (.builtin "tuple.__getitem__"))
 g60:findIn (K P) (.ref 60) "__getattribute__" = some (some (.builtin "object.__getattribute__"))
 f0:findObj (K P) 263 (some emptyDict) "name" = some (.bind (.ref 43) (.ref 249))
 f1:findObj (K P) 263 (some emptyDict) "count" = some (.bind (.ref 43) (.ref 252))
 f2:findObj (K P) 263 (some emptyDict) "minimum" = some (.bind (.ref 43) (.ref 255))
 f3:findObj (K P) 263 (some emptyDict) "default" = some (.bind (.ref 43) (.ref 258))
 i0:findObj (K P) 60 (some (kAt P 53)) "index" = some (.value (.int 0 504))
 i1:findObj (K P) 60 (some (kAt P 55)) "index" = some (.value (.int 1 514))
 i2:findObj (K P) 60 (some (kAt P 57)) "index" = some (.value (.int 2 524))
 i3:findObj (K P) 60 (some (kAt P 59)) "index" = some (.value (.int 3 534))
theorem adD (P:Params):aua P where
 ga:=by kernel_rfl
 gat:=by kernel_rfl
 sub:=by kernel_rfl
 cls:=by kernel_rfl
 g60:=by kernel_rfl
 f0:=by kernel_rfl
 f1:=by kernel_rfl
 f2:=by kernel_rfl
 f3:=by kernel_rfl
 i0:=by kernel_rfl
 i1:=by kernel_rfl
 i2:=by kernel_rfl
 i3:=by kernel_rfl
section
variable {w:World}{A:Around}{s s0:Shared}{env:Env}{L:List Res}{ns gs:List Str}{x C:Addr}{ox:Obj}
theorem acU {name:Str}{g a:Addr}{od:Option Obj}{Q:Value→Shared→Prop}(X:Frag.In (K w.params) s.heap) (I:PySem.W.InstAt s.heap x ox C od) (hga:findIn (K w.params) (.ref C) "__getattribute__" = some (some (.builtin "tuple.__getattribute__")))
  (hk:findIn (K w.params) (.ref C) "__getattr__" = some none) (hsub:subIn (K w.params) (.ref C) (.type "tuple")=some true) (hf:findObj (K w.params) C od name=some (.bind (.ref g) (.ref a)))
  (h:WP w A.in1 (call (.ref g) [.ref a,.ref x,.ref C]) (fun v s'=>handedIn v=true∧Q v s') { s with toks:=s.toks+1 }):WP w A (getAttr (.ref x) name true) Q s:=by
 refine .bind (.of (wpAny_mkText ?_))
 refine .hold (.look (s:={ s with toks:=s.toks+1 }) I.type (.look (looks_findIn X hga) ?_))
 dsimp only
 unfold getAttrByItsOwn
 refine .look (s:={ s with toks:=s.toks+1 }) (looks_hook X (mc:=.ref C) (r:=none) (by rw[show onTheHeap (Value.ref C)=true from rfl,if_pos rfl]; exact hk)) ?_
 have body:WP w A (holding [] (callGetattribute (.ref x) (.str name s.toks) (.builtin "tuple.__getattribute__") true)) (fun v s'=>handedIn v=true∧Q v s') { s with toks:=s.toks+1 }:=by
  refine .hold ?_
  unfold callGetattribute
  unfold boundAndCalled
  refine .bind (.pure ?_)
  exists dBi (plainId_quiet PySem.F.slot_tuple_getattribute.plain _) am_entry_tuple_getattribute (.of ?_)
  refine @check_slot (model pw w) _ _ { s with toks:=s.toks+1 } "tuple.__getattribute__" "tuple" "__getattribute__" (.ref x) [.str name s.toks] [] _ (by decide +kernel) (by decide +kernel) (I.type.andThen (looks_subIn X hsub)) (PySem.F.args_tuple_getattribute_2 (.ref x) (.str name s.toks)) ?_
  unfold Builtin.«object.__getattribute__»
  refine .bind (m:=slotArgs "__getattribute__" 1 _) (.pure ?_)
  refine .bind (m:=Builtin.ObjectAttr.attrName _) (.pure ?_)
  refine .look (s:={ s with toks:=s.toks+1 }) I.type (.look (looks_find X I hf) ?_)
  exact .bind (.hold (h.mono fun v s' z=>.pure z))
 refine .bind ⟨ac3 (aa4 body.go (fun v s' z=>?_) fun J J z=>z.elim)⟩
 exact WP.eq (handedOut_of z.1) z.2
theorem ap8 {d:Addr}{items:Array Value}{n k:Nat}{u:Tok}{y:Value}{Q:Value→Shared→Prop}(X:Frag.In (K w.params) s.heap) (hx:s.heap.get? x=some (vwO d items n)) (hd:s.heap.get? d=some emptyDict) (hy:items[k]? = some y) (hk:k≤1000) (h:Q y s):WP w A (call (.builtin "tuple.__getitem__") [.ref x,.int k u]) Q s:=by
 exists dBi (plainId_quiet PySem.F.slot_tuple_getitem.plain _) PySem.F.entry_tuple_getitem (.of ?_)
 refine @check_slot (model pw w) _ _ s "tuple.__getitem__" "tuple" "__getitem__" (.ref x) [.int k u] [] _ (by decide +kernel) (by decide +kernel) ((acQ hx hd).type.andThen (looks_subIn X (adD _).sub)) (PySem.F.args_tuple_getitem_2 (.ref x) (.int k u)) ?_
 refine .of ?_
 show wpAny _ _ (Builtin.Tuple.tupleItemsOf (.ref x) >>= _) _ _ s
 refine wpAny_bind (m:=Builtin.Tuple.tupleItemsOf (.ref x)) ?_
 refine wpAny_bind (wpAny_seqItems hx rfl (wpAny_pure ?_))
 refine wpAny_bind (wpAny_typeOf (typeIs_int s k u) ?_)
 refine wpAny_bind (wpAny_specialOf (T := "int") (typeIs_int s k u) int_index ?_)
 refine wpAny_bind (wpAny_of_eq (a:=(k:Int)) rfl ?_)
 rw[if_neg (by simp only[Bool.or_eq_true,decide_eq_true_eq]; lia)]
 have hj:seqIndex? (k:Int) items.size=some k:=seqIndex_of (by exact q18 ‹_›) (by have:=(Array.getElem?_eq_some_iff.mp hy).1; exact q31 ‹_›)
 simp only[hj,Option.bind_some,hy]
 exact wpAny_pure h
theorem akx {od:Option Obj}{Q:Value→Shared→Prop}(I:PySem.W.InstAt s.heap x ox C od) (h:Q (.ref C) s):WP w A (call (.type "type") [.ref x]) Q s:=by
 obtain⟨hh,g,d,t,os⟩:=s
 have e:=I.cls
 exact .of (call_type_obj I.at_ (by rw[e]; rfl) (by rw[e]; exact h))
theorem arK {T:String}{b:Bool}{Q:Value→Shared→Prop}(X:Frag.In (K w.params) s.heap) (hC:isClsIn (K w.params) C=true) (ht:typeOf (.type T)=pure (.type "type")) (hT:isType (.type T)=pure true) (hs:subIn (K w.params) (.ref C) (.type T)=some b) (h:Q (.bool b) s):WP w A (call (.builtin "issubclass") [.ref C,.type T]) Q s:=by
 refine .of (call_issubclass (S:=fun J R s'=>(Frag.In (K w.params) s'.heap)∧R (.ok (.ret (.bool b))) s') (fun prog' w' A R s' hs'=>issubclass_outer ?_) ⟨X,h⟩)
 refine wpAny_bind (wpAny_of_eq ht ?_)
 refine wpAny_bind ?_
 k_delta "plainIsSubclass"
 obtain⟨cd,hcd⟩:=Option.isSome_iff_exists.mp hC
 have h1:Looks (model prog' w') s'.heap (isType (.ref C)) true:=by
  unfold clsIn at hcd
  split at hcd
  ·rename_i ho
   exact (Looks.ld (hs'.1 _ _ ho)).andThen .now
  ·cases hcd
 refine wpAny_bind (h1.here (wpAny_bind (wpAny_of_eq hT ?_)))
 refine (looks_subIn hs'.1 hs).here ?_
 exact wpAny_pure hs'.2
end
section
variable {w:World}{A:Around}{s s0:Shared}{env:Env}{L:List Res}{ns gs:List Str}
theorem ahf {pos:Pos}{T:String}{first:List Value}{args:List (Bool × Sem Value)}{Q:Value→Shared→Prop}(hp:args.any (·.1)=false)
  (h:WP w A (evalArgs (.type T) true args []) (fun a s₁=>WP w A (call (.type T) (first++a.pos) a.kw) Q s₁) s):WP w A (callWith pos (.type T) first args []) Q s:=by
 unfold callWith
 refine .bind (.hold (h.mono fun a s₁ h1'=>.bind (.stand ?_)))
 simp only[hp,List.any_nil,Bool.or_false]
 refine .bind (.pure ?_)
 exact .bind (h1'.mono fun r s₂ hr=>.bind (.hold (.point (.pure hr))))
theorem ag1 {f:Value}{e:Expr}{rest:List Expr}{pos:Pos}{Q:Args→Shared→Prop}(h:WP w A (spliced (backTo pos (starEach (e::rest) env))) (fun vs s'=>Q ⟨vs,[]⟩ s') s) (he:starEach (e::rest) env=(false,eval e env)::starEach rest env:=by rfl) :
  WP w A (evalArgs f true (backTo pos (starEach (e::rest) env)) []) Q s:=by
 rw[he] at h ⊢
 exact aaG h
theorem abo {T:String}{x np pos e rest}{fp gp s0}{R:Res}{Q:Value→Shared→Prop}(j i:Nat) (F:aa8 env ns gs) (H:aa0 s (R::aa5 w fp gp s0::L))
  (h:WP w A (spliced (backTo pos (starEach (e::rest) env))) (qCl w A (.type T) Q) s)
  (hx:gs[j]? = some x:=by rfl) (hg:bl[i]? = some (x,.type T):=by rfl) (he:starEach (e::rest) env=(false,eval e env)::starEach rest env:=by rfl) (ha:(starEach (e::rest) env).any (·.1)=false:=by rfl) :
  WP w A (eval (.Call (.Name x np) (e::rest) [] pos) env) Q s:=by
 exists aeT (dB j i F H.bs (ahf (afc ha) ?_) hx hg)
 rw[he] at h ⊢
 exact aaG h
theorem adu {pos:Pos}{a:Addr}{c od cd sl}{first:List Value}{args:List (Bool × Sem Value)}{Q:Value→Shared→Prop}(hp:args.any (·.1)=false)
  (hc:specialIn (K w.params) (.ref a) "__call__" = some (some (.builtin "type.__call__")))
  (h:WP w A (evalArgs (.ref a) true args []) (fun x s₁=>Bs w s₁.heap∧s₁.heap.get? a=some ⟨c,od,.cls cd,sl⟩∧WP w A (call (.ref a) (first++x.pos) x.kw) Q s₁) s):WP w A (callWith pos (.ref a) first args []) Q s:=by
 unfold callWith
 refine .bind (.hold (h.mono fun x s₁ h1'=>.bind (.stand ?_)))
 obtain⟨B,ho,h1'⟩:=h1'
 have kp:WP w A (keeperOf (.ref a)) (fun k s'=>k=.machine∧s'=s₁) s₁:=by
  unfold keeperOf
  refine .bind (.of (wpAny_load ho ?_))
  exact .look (looks_specialIn B.frag hc) (.pure ⟨by rfl,rfl⟩)
 simp only[hp,List.any_nil,Bool.or_false]
 refine .bind (kp.mono fun k s' hk=>?_)
 obtain⟨rfl,rfl⟩:=hk
 exact .bind (h1'.mono fun r s₂ hr=>.bind (.hold (.point (.pure hr))))
theorem ap3 {T:String}{name:Str}{v:Value}{pl:Sem Bool}{Q:Value × List Value→Shared→Prop}(X:Frag.In (K w.params) s.heap) (ht:typeOf (.type T)=pure (.type "type")) (hs:Manifest.isStub T=false)
  (e:findCls (K w.params) (.type T) (.type "type") name=some (.val v)) (hh:handedIn v=true) (h:Q (v,[]) { s with toks:=s.toks+1 }):WP w A (getMethod (.type T) name pl) Q s:=by
 have hstub:opaqueClassAbove (.type T)=pure none:=by unfold opaqueClassAbove; dsimp only; rw[hs]; rfl
 have L0:Looks (model pw w) s.heap (typeOf (.type T)) (.type "type"):=Looks.of_pure ht
 have hg:findIn (K w.params) (.type "type") "__getattribute__" = some (some (.builtin "type.__getattribute__")):=type_tga
 refine .of ?_
 refine wpAny_bind (wpAny_bind (L0.here ((looks_findIn X hg).here ?_)))
 refine wpAny_bind (wpAny_mono (Q:=fun v=>Q (v,[])) (E:=F0) ?_ (fun J J z=>wpAny_pure z) fun J J z=>z)
 have LO:Looks (model pw w) s.heap (opaqueClassAbove (.type T)) none:=Looks.of_pure hstub
 refine cls_open X LO L0 hg (looks_hook X (r:=none) (by rfl)) (by show subIn _ _ _=_; rfl) e
  (wpAny_pure (by show wpAny _ _ (handedOut v) _ _ _; rw[handedOut_of hh]; exact wpAny_pure h))
end
section
variable {w:World}{A:Around}{s s0:Shared}{env:Env}{L:List Res}{ns gs:List Str}
theorem opq {C:Addr}(B:Bs w s.heap):Looks (model pw w) s.heap (opaqueClassAbove (.ref C)) none:=by
 obtain⟨mc,hm,e⟩:=B.third
 have h1:Looks (model pw w) s.heap (nsGet cStatics "thirdparty.any") none:=fun A Q E s' k q=>wpAny_nsGet (hm.keeps k) (by rw[e]; exact q)
 exact Looks.andThen (a:=false) (h1.andThen .now) (by show Looks _ s.heap (if (!false)=true then pure none else _) none; rw[if_pos (show (!false)=true from rfl)]; exact .now)
theorem afW (P:Params):peek (K P) ⟨pw,P⟩ (Bind.madeBy (.ref 263))=some none:=by kernel_rfl
theorem ap0 (P:Params):peek (K P) ⟨pw,P⟩ (mroOf (.ref 263))=some [.ref 263,.type "tuple",.type "object"]:=by kernel_rfl
theorem aqi (P:Params):findCls (K P) (.ref 263) (.type "type") "__new__" = some (.get (.builtin "staticmethod.__get__") (.ref 264) .none (.ref 263)):=by kernel_rfl
theorem aoW (P:Params):recIn (K P) 264 "staticmethod" = some [.ref 207]:=by kernel_rfl
theorem ahb (P:Params):findIn (K P) (.ref 263) "__init__" = some (some (.builtin "object.__init__")):=by kernel_rfl
theorem alp (P:Params):specialIn (K P) (.ref 263) "__call__" = some (some (.builtin "type.__call__")):=by kernel_rfl
theorem aoz (P:Params):instIn (K P) (.ref 263) (.type "type")=some true:=by kernel_rfl
theorem anK (P:Params):subIn (K P) (.ref 263) (.ref 263)=some true:=by kernel_rfl
theorem aq7 (P:Params):subIn (K P) (.ref 263) (.type "object")=some true:=by kernel_rfl
theorem aos (P:Params):typeIn (K P) (.ref 263)=some (.type "type"):=by kernel_rfl
theorem aoi (P:Params):(if onTheHeap (.type "type") then findIn (K P) (.type "type") "__getattr__" else some none)=some none:=by rfl
theorem alO (P:Params):subIn (K P) (.type "type") (.type "type")=some true:=by rfl
theorem aj0 {K:Frag}{C:Addr}(e:isClsIn K C=true):∃ c od cd sl,K.lookup C=some ⟨c,od,.cls cd,sl⟩:=by
 obtain⟨cd,hcd⟩:=Option.isSome_iff_exists.mp e
 unfold clsIn at hcd
 split at hcd
 ·rename_i ho; exact⟨_,_,_,_,ho⟩
 ·cases hcd
theorem ai3 (P:Params) (t:Addr):peek (K P) ⟨pw,P⟩ (checkBuiltinCall "tuple.__new__" ⟨[.ref 263,.ref t],[]⟩)=some ():=by kernel_rfl
theorem akg (P:Params):peek (K P) ⟨pw,P⟩ (isType (.ref 263))=some true:=by kernel_rfl
theorem ajs (P:Params):peek (K P) ⟨pw,P⟩ (Bind.madeHere "tuple.__new__" (.ref 263))=some ():=by kernel_rfl
theorem ae9:entryFor table "tuple.__new__" = some Builtin.«tuple.__new__»:=entryFor_of_tree (by kernel_rfl)
theorem ae0 (args:Args):(Code.builtin "tuple.__new__" args).quiet=true:=Code.quiet_builtin _ (by decide +kernel)
theorem aph (P:Params):peek (K P) ⟨pw,P⟩ (classHasDel 263)=some false:=by kernel_rfl
theorem apT {t:Addr}{items:Array Value}{R R₂:Res}{Q:Value→Shared→Prop}(B:Bs w s.heap) (H:aa0 s (R::R₂::L)) (ht:s.heap.IsTuple t items) (hn:items.size≤1000)
  (h:∀ s' v d,aa0 s' (R::R₂::vwR v d items::L)→Q (.ref v) s'):WP w A (call (.builtin "tuple.__new__") [.ref 263,.ref t]) Q s:=by
 exists dBi (ae0 _) ae9 (.lookR (Looks.of_peek B.frag (ai3 _ t)) ?_)
 unfold Builtin.«tuple.__new__»
 refine .look (Looks.of_peek B.frag (akg _)) ?_
 refine .look (looks_subIn B.frag (adD _).sub) ?_
 refine .look (Looks.of_peek B.frag (ajs _)) ?_
 refine .look (looks_findIn B.frag (ahb _)) ?_
 refine .bind (.pure ?_)
 refine .bind (.pure ?_)
 obtain⟨o,ho,hc,n,hd⟩:=ht
 show WP w _ (if (Value.ref 263==Value.type "tuple")=true then _ else _) _ _
 refine .bind (.of (wpAny_collect_seq t (T := "tuple") (.inr rfl) ho hc hd (fun h' hk=>?_) (Nat.le_trans hn aan)))
 refine .bind (.pure ?_)
 show WP w _ (alloc emptyDict >>= fun d=>(newObj (.ref 263) (.seq items.toList.toArray) (some d) >>= fun v=>ret v)) _ _
 refine .bind (.of (wpAny_alloc ?_))
 have e:items.toList.toArray=items:=by simp
 unfold newObj
 dsimp only
 rw[if_neg (Nat.not_lt.mpr (Nat.le_trans hn aan))]
 refine .bind ?_
 unfold newObjAsIs
 refine .bind (.of (wpAny_alloc ?_))
 refine WP.look (s:={ s with heap:=(h'.push emptyDict).push (vwO h'.objs.size items 0) }) (Looks.of_peek (B.frag.keeps (h':=(h'.push emptyDict).push (vwO h'.objs.size items 0)) fun b o e=>Heap.get?_push_of_some _ (Heap.get?_push_of_some _ (hk b o e))) (aph _)) ?_
 refine .pure (.pure ?_)
 have H2:=(H.keep (s':={ s with heap:=h' }) (aaO hk s.toks)).made (R':=vwR (h'.push emptyDict).objs.size h'.objs.size items) (s':={ s with heap:=(h'.push emptyDict).push (vwO h'.objs.size items 0) })
  (.of (fun J J e=>Heap.get?_push_of_some _ (Heap.get?_push_of_some _ e)) rfl rfl ⟨⟨0,Heap.get?_push_size _ rfl⟩,Heap.get?_push_of_some _ (Heap.get?_push_size _ rfl)⟩ (fun a x=>by
   rcases x with rfl | rfl
   ·cases hq:h'.get? (h'.push emptyDict).objs.size with
    | none=>rfl
    | some o=>have q2:(h'.push emptyDict).objs.size<h'.objs.size:=Heap.lt_size hq; rw[Heap.size_push] at q2; lia
   ·exact aa9 _ rfl) fun J z=>z)
 exact h _ _ _ H2
end
section
variable {w:World}{A:Around}{s s0:Shared}{env:Env}{L:List Res}
theorem asy {value slice:Expr}{m:Ms}{k:Int}{tk:Tok}{Q:Value→Shared→Prop}(r:aah A 1 4) (B:Bs w s.heap) (hm:afS m s.heap) (h:∀ s' t,acZ s s'→Q (.int (cnt m.abs k) t) s')
  (hsl:subscripted slice true (.ref m.x) (.int k tk)=runValue (.builtin "lifetime.subscript" ⟨[.ref m.x,.int k tk],[]⟩):=by with_unfolding_all rfl):WP w A (subscriptTail value slice (.ref m.x) (.int k tk)) Q s:=by
 obtain⟨od,I⟩:=ahl hm
 exact atE B.frag I (adZ _).gi (adZ _).n85 (adZ _).f85 (aj8 r.in1 B hm h) hsl
theorem anH {m:Ms}{k c:Int}{tk tc:Tok}{fp gp}{R:Res}{Q:Unit→Shared→Prop}(M:List Res) (r:aah A 1 3) (H:aa0 s (R::aa5 w fp gp s0::(M++msR m::L))) (hn:m.rows.length≤100)
  (h:∀ s' m',aa0 s' (R::aa5 w fp gp s0::(M++msR m'::L))→m'.x=m.x→m'.abs=upd m.abs k c→Q () s'):WP w A (setItem (.ref m.x) (.int k tk) (.int c tc)) Q s:=by
 have H':aa0 s ((R::aa5 w fp gp s0::M)++msR m::L):=H
 obtain⟨od,I⟩:=ahl (ahx (H'.at _))
 exact atl H.bs.frag I (adZ _).noseq (adZ _).si (adZ _).f90 (akr r H.bs (H'.at _) (aa0.freeK [R] M H) hn fun s' m' k e1 e2=>h s' m' (H'.updAt _ k) e1 e2)
end
theorem am9 {ns:List Int}{i:Nat}{k:Int}(h:ns[i]? = some k):bag (ns.take (i+1))=upd (bag (ns.take i)) k (cnt (bag (ns.take i)) k+1):=by
 unfold bag
 simp only[List.take_add_one,h]
 simp[List.foldl_append]
theorem apj {w:World}{s:Shared}(B:Bs w s.heap) (x v:Value):BindsTo s arF ⟨[x,v],[]⟩ [("self",x),("items",v)]:=
 BindsTo.of_defaults (T:=73) (o:=kAt w.params 13) (items:=#[.ref 72]) (n:=0) rfl (B.k (73,kAt w.params 13) (mK 13 (by kernel_rfl))) (by kernel_rfl) rfl (by kernel_rfl)
theorem anh {w:World}{s:Shared}(B:Bs w s.heap) (x:Value):BindsTo s arF ⟨[x],[]⟩ [("self",x),("items",.ref 72)]:=
 BindsTo.of_defaults (T:=73) (o:=kAt w.params 13) (items:=#[.ref 72]) (n:=0) rfl (B.k (73,kAt w.params 13) (mK 13 (by kernel_rfl))) (by kernel_rfl) rfl (by kernel_rfl)
inductive I78 (ns:List Int) (x:Addr) (env:Env) (la:Addr) (w:World) (dx:Addr) (s:Shared) (it:Addr) (n:Nat) (s':Shared):Prop
 | mk (i vi m):n=ns.length - i→i≤ns.length→m.x=x→m.abs=bag (ns.take i)→m.rows.length≤i→aa0 s' (aa1 env.locals (aal ash [some (.ref x),some (.ref la),vi,none])::aa5 w (aae [acG x 178 dx,mtR dx]).fp (aae [acG x 178 dx,mtR dx]).gp s::abx it la i::msR m::[])→I78 ns x env la w dx s it n s'
theorem aqv {w:World}{A:Around}{s:Shared}{x dx la:Addr}{vs:List Value}{ns:List Int}{Q:Value→Shared→Prop}(r:aah A 2 9) (B:Bs w s.heap) (hp:(aae [acG x 178 dx,mtR dx]).P s) (hf:freeK (aae [acG x 178 dx,mtR dx]))
  (hx:la≠x∧la≠dx) (hl:s.heap.IsList la vs.toArray) (hi:IntsAre vs ns) (hn:ns.length≤100)
  (h:∀ s' m,Chg (aae [acG x 178 dx,mtR dx]) (msR m) s s'→m.x=x→m.abs=bag ns→Q .none s'):WP w A (call (.ref 78) [.ref x,.ref la]) Q s:=by
 exists adi (d:=1) (u:=6) (vs:=[some _,some _,none,none]) X78 r B (aa0.startR B hp hf) rfl (apj B _ _) (lb rfl) rfl fun A' env s₁ r' F H=>?_,0
 have hold:∀ {s₂:Shared} {R₁:Res} {L:List Res},aa0 s₂ (R₁::aa5 w (aae [acG x 178 dx,mtR dx]).fp (aae [acG x 178 dx,mtR dx]).gp s::L)→s₂.heap.IsList la vs.toArray:=fun H=>by
  obtain⟨o,ho,r⟩:=hl
  refine⟨o,(H.at [_]).kept.heap _ _ (fun z=>?_) ho,r⟩
  obtain⟨R,m,e⟩:=z
  simp only[List.mem_cons,List.not_mem_nil,or_false] at m
  rcases m with rfl | rfl
  ·exact hx.1 e
  ·exact hx.2 e
 replace H:=aa0.sep.mp (H.pick [2,0,1] 3)
 replace H:=H.pick [2,3,0,1] 4
 dsimp only[ac7,ac4,aeA,abV,List.cons_append,List.nil_append,List.append] at H
 exists aa7 ?_,af7 ?_
 refine ab5 ?_
 exists aa6 ⟨_,_,_,H,aam,fun s₂ l H=>dL 0 F H rfl<|ahD (l:=l) [_,_,_] H.bs H fun s3 H=>?_⟩
 replace H:=H.pick [0,1,3,4,2] 5
 dsimp only[ac7,ac4,aeA,abV,List.cons_append,List.nil_append,List.append] at H
 replace H:aa0 s3 (_::_::msR ⟨x,dx,l,[]⟩::[]):=aeP (m:=⟨x,dx,l,[]⟩) (aa0.fzNew [_,_,_,_,_] H)
 exists aa7 ?_,dIf ?_,abP ?_
 refine aaj 0 0 F H ?_
 exists spL 1 F H rfl ?_
 refine aa3 ?_
 exists dG 1 0 F H.bs ?_,aa6 ?_
 refine atL H.bs (hold H) H fun s4' H=>?_
 exists tB ?_
 refine ifN ((by decide)) ?_
 have hd:=hold H
 exists aa7 ?_,dIf ?_,abP ?_
 refine aaj 0 0 F H ?_
 exists spL 1 F H rfl ?_
 refine aa3 ?_
 exists dB 2 1 F H.bs ?_,aa6 ?_
 refine .of ?_
 refine IsiPair.list_dict hd.choose_spec.1 hd.choose_spec.2.1 ?_
 exists tB ?_
 replace H:=H.keep (aab (s4'.toks+1))
 refine ifN ((by decide)) ?_
 exists aa7 ?_
 refine aem ?_
 exists dL 1 F H rfl ?_,aaM (hold H) H fun s5 it H=>?_,abB (I:=I78 ns x env la w dx s it) (fun n s' hI=>?_) _ ⟨0,none,⟨x,dx,l,[]⟩,rfl,Nat.zero_le _,rfl,rfl,Nat.le_refl 0,H⟩
 obtain⟨i,vi,m,e,hle,hmx,hma,hml,H⟩:=hI
 cases hr:ns[i]? with
 | none=>
  have hnone:vs.toArray[i]? = none:=by
   have h1:ns.length≤i:=by simpa using hr
   rw[← hi.length] at h1
   simpa using h1
  exists abF [_,_] r'.handled H (hold H) hnone fun s6 H=>?_,aaL ?_,aaL ?_,aaL ?_
  have e0:ns.take i=ns:=List.take_of_length_le (by simpa using hr)
  rw[e0] at hma
  exact h s6 m (aa0.outR (H.pick [0,1,3,2] 4)) hmx hma
 | some k=>
  obtain⟨t,hv⟩:=hi.get i k hr
  have hlt:=(List.getElem?_eq_some_iff.mp hr).1
  exists aaN [_,_] H (hold H) (x:=.int k t) (by simpa using hv) fun s6 H=>?_,0,goS 2 F H rfl fun s6 H=>?_
  subst hmx
  exists aa7 ?_,adm ?_,abG ?_
  refine aaw ?_
  exists 0,dL 0 F H rfl ?_,dL 2 F H rfl ?_,asy (r'.mono (by exact lb rfl) (by exact lb rfl)) H.bs (ahx (H.at [_,_,_])) fun s7 t' kp=>?_
  replace H:=H.keep kp
  exists aaW H fun s7 t'' H=>?_
  refine ana H fun s7 t3 H=>?_
  exists dL 0 F H rfl ?_,dL 2 F H rfl ?_,anH [_] (r'.mono (by exact lb rfl) (by exact lb rfl)) H (by lia) fun s8 m' H e1 e2=>?_,aaL ?_
  refine⟨ns.length - (i+1),by exact q1 ‹_› ‹_›,i+1,some (.int k t),m',rfl,hlt,e1,?_,?_,H⟩
  ·rw[am9 hr,e2,hma]
  ·rw[← Ms.abs_length,e2]
   have:=aix m.abs k (cnt m.abs k+1)
   rw[Ms.abs_length] at this
   lia
theorem aoK {w:World}{A:Around}{s:Shared}{x dx:Addr}{Q:Value→Shared→Prop}(r:aah A 2 9) (B:Bs w s.heap) (hp:(aae [acG x 178 dx,mtR dx]).P s) (hf:freeK (aae [acG x 178 dx,mtR dx]))
  (h:∀ s' m,Chg (aae [acG x 178 dx,mtR dx]) (msR m) s s'→m.x=x→m.abs=[]→Q .none s'):WP w A (call (.ref 78) [.ref x]) Q s:=by
 exists apa (d:=1) (u:=6) (vs:=[some _,some _,none,none]) X78 r B (aa0.startR B hp hf) rfl (anh B _) (vals:=[.ref x,.ref 72]) (lb rfl) rfl fun A' env s₁ r' F H=>?_,0
 have k72:∀ {s₂:Shared},Bs w s₂.heap→s₂.heap.IsTuple 72 #[]:=fun b=>⟨_,b.k (72,kAt w.params 12) (mK 12 (by kernel_rfl)),rfl,0,rfl⟩
 replace H:=aa0.sep.mp (H.pick [2,0,1] 3)
 replace H:=H.pick [2,3,0,1] 4
 dsimp only[ac7,ac4,aeA,abV,List.cons_append,List.nil_append,List.append] at H
 exists aa7 ?_,af7 ?_
 refine ab5 ?_
 exists aa6 ⟨_,_,_,H,aam,fun s₂ l H=>dL 0 F H rfl<|ahD (l:=l) [_,_,_] H.bs H fun s3 H=>?_⟩
 replace H:=H.pick [0,1,3,4,2] 5
 dsimp only[ac7,ac4,aeA,abV,List.cons_append,List.nil_append,List.append] at H
 replace H:aa0 s3 (_::_::msR ⟨x,dx,l,[]⟩::[]):=aeP (m:=⟨x,dx,l,[]⟩) (aa0.fzNew [_,_,_,_,_] H)
 exists aa7 ?_,dIf ?_,abP ?_
 refine aaj 0 0 F H ?_
 exists spL 1 F H rfl ?_
 refine aa3 ?_
 exists dG 1 0 F H.bs ?_,aa6 ?_
 refine atn H.bs (k72 H.bs) H fun s4' H=>?_
 exists tB ?_
 refine ifN ((by decide)) ?_
 have hd:=k72 H.bs
 exists aa7 ?_,dIf ?_,abP ?_
 refine aaj 0 0 F H ?_
 exists spL 1 F H rfl ?_
 refine aa3 ?_
 exists dB 2 1 F H.bs ?_,aa6 ?_
 refine .of ?_
 refine IsiPair.tuple_dict hd.choose_spec.1 hd.choose_spec.2.1 ?_
 exists tB ?_
 replace H:=H.keep (aab (s4'.toks+1))
 refine ifN ((by decide)) ?_
 exists aa7 ?_
 refine aem ?_
 exists dL 1 F H rfl ?_,ao7 (k72 H.bs) H fun s5 it H=>?_,abB (I:=fun n s'=>n=0∧aa0 s' (aa1 env.locals (aal ash [some (.ref x),some (.ref 72),none,none])::aa5 w (aae [acG x 178 dx,mtR dx]).fp (aae [acG x 178 dx,mtR dx]).gp s::aiT it 72 0::msR ⟨x,dx,l,[]⟩::[])) (fun n s' hI=>?_) 0 ⟨rfl,H⟩
 obtain⟨_,H⟩:=hI
 exists ant [_,_] r'.handled H (k72 H.bs) rfl fun s6 H=>?_,aaL ?_,aaL ?_,aaL ?_
 exact h s6 ⟨x,dx,l,[]⟩ (aa0.outR (H.pick [0,1,3,2] 4)) rfl rfl
section
variable {w:World}{A:Around}{s:Shared}
theorem apt {Q:Value→Shared→Prop}(r:aah A 3 12) (B:Bs w s.heap) (h:∀ s' m,acr (msR m) s s'→m.abs=[]→Q (.ref m.x) s'):WP w A (call (.ref 178) []) Q s:=by
 exists apX B (adZ _).makes (adZ _).init (adZ _).f78 (aa0.start B) fun x dx s₁ H=>?_
 have H1:aa0 s₁ (aae [acG x 178 dx,mtR dx]::aa5 w aaD aaD s::[]):=(aa0.sep (L:=[_,_])).mpr H
 exists aoK ((r.mono (by exact lb rfl) (by exact lb rfl):aah A (2+1) (9+1)).typeCall) H1.bs (H1.at []) (aa0.freeK' [] [] H1) fun s₂ m k e1 e2=>?_
 refine⟨rfl,?_⟩
 have H2:=aa0.emp.mp (aa0.front [_] (H1.upd k))
 have:=h s₂ m (aa0.out H2) e2
 rw[e1] at this
 exact this
theorem arV {la:Addr}{vs:List Value}{ns:List Int}{Q:Value→Shared→Prop}(r:aah A 3 12) (B:Bs w s.heap) (hl:s.heap.IsList la vs.toArray) (hi:IntsAre vs ns) (hn:ns.length≤100)
  (h:∀ s' m,acr (msR m) s s'→m.abs=bag ns→Q (.ref m.x) s'):WP w A (call (.ref 178) [.ref la]) Q s:=by
 exists apX B (adZ _).makes (adZ _).init (adZ _).f78 (aa0.start B) fun x dx s₁ H=>?_
 have H1:aa0 s₁ (aae [acG x 178 dx,mtR dx]::aa5 w aaD aaD s::[]):=(aa0.sep (L:=[_,_])).mpr H
 have live:(s.heap.get? la).isSome=true:=by obtain⟨o,ho,_⟩:=hl; rw[ho]; rfl
 have h1:la≠x:=fun e=>(H.apart (M:=[_]) []).1 x rfl ⟨by rw[← e]; exact live,fun z=>z⟩
 have h2:la≠dx:=fun e=>(H.apart (M:=[]) [_]).1 dx rfl ⟨by rw[← e]; exact live,fun z=>z⟩
 have hl1:s₁.heap.IsList la vs.toArray:=let ⟨o,ho,q⟩:=hl; ⟨o,H1.old _ _ ho,q⟩
 exists aqv ((r.mono (by exact lb rfl) (by exact lb rfl):aah A (2+1) (9+1)).typeCall) H1.bs (H1.at []) (aa0.freeK' [] [] H1) ⟨h1,h2⟩ hl1 hi hn fun s₂ m k e1 e2=>?_
 refine⟨rfl,?_⟩
 have H2:=aa0.emp.mp (aa0.front [_] (H1.upd k))
 have:=h s₂ m (aa0.out H2) e2
 rw[e1] at this
 exact this
end
theorem afa:typeOf (.type "tuple")=pure (.type "type"):=by rfl
theorem akP:isType (.type "tuple")=pure true:=by rfl
theorem amw (P:Params):isClsIn (K P) 263=true:=by kernel_rfl
theorem alx {w:World}{A:Around}{s:Shared}{a v d:Addr}{items:Array Value}{i k:Nat}{tk:Tok}{y:Value}{Q:Value→Shared→Prop}(r:aah A 2 9) (B:Bs w s.heap) (ha:(a,(⟨.ref 60,some (acv.getD i 0),.plain,#[]⟩:Obj))∈K w.params) (hd:(acv.getD i 0,kAt w.params i)∈K w.params)
  (hf:findObj (K w.params) 60 (some (kAt w.params i)) "index" = some (.value (.int k tk))) (hv:(vwR v d items).P s) (hy:items[k]? = some y) (hk:k≤1000) (h:∀ s',acZ s s'→Q y s'):WP w A (call (.ref 43) [.ref a,.ref v,.ref 263]) Q s:=by
 exists adi (d:=1) (u:=6) (vs:=[some _,some _,some _]) X43 r B (aa0.start B) rfl (BindsTo.of_defaults (T:=36) (o:=kAt w.params 4) (items:=#[.none]) (n:=0) rfl (B.k (36,kAt w.params 4) (mK 4 (by kernel_rfl))) (by kernel_rfl) rfl (by kernel_rfl)) (lb rfl) rfl fun A' env s₁ r' F H=>?_,0
 have hold:∀ {s₂:Shared} {R₁:Res} {L:List Res},aa0 s₂ (R₁::aa5 w aaD aaD s::L)→∃ n,s₂.heap.get? v=some (vwO d items n)∧s₂.heap.get? d=some emptyDict:=fun H=>let ⟨⟨n,e⟩,e'⟩:=hv; ⟨n,H.old _ _ e,H.old _ _ e'⟩
 exists aa7 ?_,dIf ?_,abS ?_,dL 1 F H rfl ?_,ad5 ?_,an1 ?_,tB ?_
 refine ifN ((by simp)) ?_
 exists aaL ?_,aa7 ?_,dIf ?_,arT ?_,abP ?_,aaj 0 4 F H ?_,aa3 ?_,abo 1 5 F H ?_
 refine spL 1 F H rfl ?_
 exists aa6 ?_
 obtain⟨n,hx,hxd⟩:=hold H
 refine akx (acQ hx hxd) ?_
 exists aa3 ?_
 refine dB 2 6 F H.bs ?_
 exists aa6 ?_
 refine arK H.bs.frag (amw _) afa akP (adD _).sub ?_
 exists tB ?_
 refine ifN ((by decide)) ?_
 exists aaL ?_
 refine aa7 ?_
 exists agD ?_,akT ?_,dB 2 6 F H.bs fun pl=>?_,ap3 H.bs.frag afa (by decide +kernel) (adD _).cls (by rfl) ?_
 refine abW rfl ?_
 refine ag1 ?_
 replace H:=H.keep (aab (s₁.toks+1))
 exists spL 1 F H rfl ?_,aa3 ?_
 refine acF ?_
 exists dL 0 F H rfl ?_
 refine at3 H.bs.frag (ox:=⟨.ref 60,some (acv.getD i 0),.plain,#[]⟩) (od:=some (kAt w.params i)) ⟨H.bs.k _ ha,rfl,rfl,H.bs.k _ hd⟩ (adD _).g60 hf rfl ?_
 exists aa6 ?_
 replace H:=H.keep (aab (s₁.toks+1+1))
 obtain⟨n,hx,hxd⟩:=hold H
 exact ap8 H.bs.frag hx hxd hy hk (h _ H.done)
section
variable {w:World}{A:Around}{s:Shared}{v d:Addr}{items:Array Value}{y:Value}{Q:Value→Shared→Prop}
theorem adH {n:Nat} {s':Shared} (k:acZ { s with toks:=n } s'):acZ s s':=⟨⟨k.kept.heap,k.kept.gens,k.kept.os⟩,k.new,k.p,k.fp,k.gp⟩
theorem an8 (r:aah A 2 10) (B:Bs w s.heap) (hv:(vwR v d items).P s) (hy:items[0]? = some y) (hh:handedIn y=true) (h:∀ s',acZ s s'→Q y s'):WP w A (getAttr (.ref v) "name" true) Q s:=by
 obtain⟨⟨n,hx⟩,hxd⟩:=id hv
 exact acU B.frag (acQ hx hxd) (adD _).ga (adD _).gat (adD _).sub (adD _).f0 (alx (s:={ s with toks:=s.toks+1 }) (i:=53) r.in1 B (mK 54 (by kernel_rfl)) (mK 53 (by kernel_rfl)) (adD _).i0 hv hy (by decide) fun s' k=>⟨hh,h s' (adH k)⟩)
theorem alu (r:aah A 2 10) (B:Bs w s.heap) (hv:(vwR v d items).P s) (hy:items[1]? = some y) (hh:handedIn y=true) (h:∀ s',acZ s s'→Q y s'):WP w A (getAttr (.ref v) "count" true) Q s:=by
 obtain⟨⟨n,hx⟩,hxd⟩:=id hv
 exact acU B.frag (acQ hx hxd) (adD _).ga (adD _).gat (adD _).sub (adD _).f1 (alx (s:={ s with toks:=s.toks+1 }) (i:=55) r.in1 B (mK 56 (by kernel_rfl)) (mK 55 (by kernel_rfl)) (adD _).i1 hv hy (by decide) fun s' k=>⟨hh,h s' (adH k)⟩)
theorem air (r:aah A 2 10) (B:Bs w s.heap) (hv:(vwR v d items).P s) (hy:items[2]? = some y) (hh:handedIn y=true) (h:∀ s',acZ s s'→Q y s'):WP w A (getAttr (.ref v) "minimum" true) Q s:=by
 obtain⟨⟨n,hx⟩,hxd⟩:=id hv
 exact acU B.frag (acQ hx hxd) (adD _).ga (adD _).gat (adD _).sub (adD _).f2 (alx (s:={ s with toks:=s.toks+1 }) (i:=57) r.in1 B (mK 58 (by kernel_rfl)) (mK 57 (by kernel_rfl)) (adD _).i2 hv hy (by decide) fun s' k=>⟨hh,h s' (adH k)⟩)
theorem aih (r:aah A 2 10) (B:Bs w s.heap) (hv:(vwR v d items).P s) (hy:items[3]? = some y) (hh:handedIn y=true) (h:∀ s',acZ s s'→Q y s'):WP w A (getAttr (.ref v) "default" true) Q s:=by
 obtain⟨⟨n,hx⟩,hxd⟩:=id hv
 exact acU B.frag (acQ hx hxd) (adD _).ga (adD _).gat (adD _).sub (adD _).f3 (alx (s:={ s with toks:=s.toks+1 }) (i:=59) r.in1 B (mK 60 (by kernel_rfl)) (mK 59 (by kernel_rfl)) (adD _).i3 hv hy (by decide) fun s' k=>⟨hh,h s' (adH k)⟩)
end
theorem apN (P:Params):findCls (K P) (.type "tuple") (.type "type") "__new__" = some (.val (.builtin "tuple.__new__")):=by kernel_rfl
theorem arx {w:World}{A:Around}{s:Shared}{a b c d:Value}{Q:Value→Shared→Prop}(r:aah A 2 9) (B:Bs w s.heap) (h:∀ s' v dx,acr (vwR v dx #[a,b,c,d]) s s'→Q (.ref v) s'):WP w A (call (.ref 207) [.ref 263,a,b,c,d]) Q s:=by
 exists adi (d:=1) (u:=6) (vs:=[some _,some _,some _,some _,some _]) au0 r B (aa0.start B) rfl (BindsTo.of_eq (by kernel_rfl)) (lb rfl) rfl fun A' env s₁ r' F H=>?_,0,aa7 ?_,akG F H fun s₁ H=>?_
 refine aa7 ?_
 exists agD ?_
 refine akT ?_
 exists dB 0 6 F H.bs fun pl=>?_,ap3 H.bs.frag afa (by decide +kernel) (apN _) (by rfl) ?_
 refine abW rfl ?_
 refine ag1 ?_
 replace H:=H.keep (aab (s₁.toks+1))
 exists spL 0 F H rfl ?_,aa3 ?_
 refine ael ?_
 exists spL 1 F H rfl ?_
 refine spL 2 F H rfl ?_
 exists spL 3 F H rfl ?_
 refine spL 4 F H rfl ?_
 exists aa6 ⟨_,_,_,H,aam,fun s₂ t H=>aa6 ?_⟩
 refine apT H.bs H (H.at [_,_]) (lb rfl) fun s3 v dx H=>?_
 exact h _ _ _ H.out
theorem amg (x a b c d:Value):argsOk "object.__init__" ⟨[x,a,b,c,d],[]⟩:=by unfold argsOk; kernel_rfl
theorem ars {w:World}{A:Around}{s:Shared}{a b c d:Value}{Q:Value→Shared→Prop}(r:aah A 4 20) (B:Bs w s.heap) (h:∀ s' v dx,acr (vwR v dx #[a,b,c,d]) s s'→Q (.ref v) s'):WP w A (call (.ref 263) [a,b,c,d]) Q s:=by
 have X:=B.frag
 obtain⟨oc,od,cd,sl,hl⟩:=aj0 (amw w.params)
 exists abN (aax ?_)
 refine WP.go (Q:=fun (fin:PySem.Fin) s'=>match fin with | .done f=>(match (Except.ok f:Result) with | .ok (.ret v)=>Q v s' | .ok _=>False | .error e=>F0 e s') | .again c'=>c'.quiet=true∧aaA (model pw w) A c' (fun r s'=>match r with | .ok (.ret v)=>Q v s' | .ok _=>False | .error e=>F0 e s') s') ?_|>fun z=>aa4 z (fun J J x=>x) fun J J x=>x.elim
 refine .of (nd_load (X _ _ hl) ?_)
 show wpAny _ _ (callAny.viaDunder (.ref 263) _) _ _ _
 unfold callAny.viaDunder
 refine wpAny_bind ((looks_specialIn X (alp _)).here ?_)
 refine wpAny_bind (wpAny_pure (wpAny_bind (wpAny_pure ?_)))
 refine wpAny_pure (a:=Fin.again (.call (.builtin "type.__call__") ⟨[.ref 263,a,b,c,d],[]⟩)) (And.intro rfl ?_)
 refine ac0 (Code.quiet_builtin _ (by decide +kernel)) entry_typeCall (abM (E:=F0) (check_slot tc_kind tc_split (looks_instIn X (aoz _)) (tc_args _ _ _) ?_)|>fun z=>aa4 z (fun J J x=>x) fun J J x=>x.elim)
 refine apv ?_
 have r1:aah (A.under (.builtin "type.__call__" ⟨[.ref 263,a,b,c,d],[]⟩)) 3 19:=aah.typeCall r
 unfold Builtin.«type.__call__»
 refine .look (Looks.of_peek X (ap0 _)) ?_
 dsimp only
 refine .look (Looks.of_peek X (afW _)) ?_
 refine .bind (.of ?_)
 refine cls_open X (opq B) (looks_typeIn X (aos _)) type_tga (looks_hook X (aoi w.params)) (alO _) (aqi _) ?_
 refine wpAny_bind (wpAny_holding (wpAny_call (sm_get (s:={ s with toks:=s.toks+1 }) X (aoW _) ?_)))
 refine wpAny_pure ?_
 show wpAny _ _ (handedOut (.ref 207)) _ _ _
 refine wpAny_pure ?_
 refine .bind (.hold (arx (s:={ s with toks:=s.toks+1 }) (r1.mono (by exact lb rfl) (by exact lb rfl)) B fun s' v dx m=>?_))
 have B':Bs w s'.heap:=by
  exact ((aa0.start (s:={ s with toks:=s.toks+1 }) B).add m).bs
 have X':=B'.frag
 obtain⟨⟨n,hv⟩,hd⟩:=m.p
 have I:=acQ hv hd
 refine .bind (.look I.type (.lookR (looks_subIn X' (anK _)) ?_))
 refine .bind (.hold (.bind (.look I.type (.lookR (looks_findIn X' (ahb _)) ?_))))
 dsimp only
 refine .hold (.bind (.pure (.bind ?_)))
 exists dBi (Code.quiet_builtin _ (by decide +kernel)) entry_oi (.of ?_)
 have sub:Looks (model pw w) s'.heap (isInstance (.ref v) (.type "object")) true:=I.type.andThen (looks_subIn X' (aq7 _))
 refine @check_slot (model pw w) _ _ s' "object.__init__" "object" "__init__" (.ref v) [a,b,c,d] [] _ oi_kind oi_split sub (amg (.ref v) a b c d) ?_
 unfold Builtin.«object.__init__»
 refine .look I.type (.look (looks_findIn X' (ahb _)) (.look (Looks.of_peek X' (afW _)) ?_))
 refine .pure (.pure ?_)
 refine .pure ?_
 exact h s' v dx ⟨⟨m.kept.heap,m.kept.gens,m.kept.os⟩,m.new,m.p,m.fp,m.gp⟩
section
variable {w:World}{A:Around}{s s0:Shared}{env:Env}{L:List Res}{ns gs:List Str}
theorem akb {fd:FuncData}{f:Addr}{ns cs gs:List Str}{body:List Stmt}{vals:List Value}{binds:List (Str × Value)}{vs vcs:List (Option Value)}{Q:Value→Shared→Prop}{d u:Nat}
  (X:FnC fd f ns cs gs) (r:aah A (d+1) (u+3)) (b:Bs w s.heap) (H:aa0 s L) (hbody:fd.body=.stmts body) (hbind:BindsTo s fd ⟨vals,[]⟩ binds)
  (hkind:∀ x∈binds,fd.scope.names.lookup x.1=some .local∨x.1∈cs) (hcl:∀ x∈cs,fd.scope.names.lookup x=some .cell)
  (hvs:∀ y,bindL (fun x=>fd.scope.names.lookup x) binds (fun J=>none) y=aal ns vs y) (hvc:∀ (i:Nat) (n:Str) v,cs[i]? = some n→vcs[i]? = some v→bindC (fun x=>fd.scope.names.lookup x) binds (fun J=>none) n=v) (hlen:vcs.length=cs.length)
  (h:∀ A' env s₁,aah A' d u→env=callEnvC fd env.locals f→aa8 env ns gs→aap env .cell cs (abT env.locals cs.length)→aa0 s₁ (aa1 env.locals (aal ns vs)::(aeN (env.locals+1:Nat) vcs++L))→WP w A' (execs body env) (fun fl s'=>Q (aiv fl) s') s₁)
  (hgen:fd.scope.isGenerator=false:=by rfl):WP w A (call (.ref f) vals) Q s:=by
 obtain⟨o,hoK,hod⟩:=X.obj w.params
 obtain⟨c,oc,cvs,tq,hc1,hc2,hc3,hc4⟩:=X.code w.params
 have hc:=X.chk
 obtain⟨h1,h2,h3,h4,h5,h6,h7,h8,h9,h10,h11⟩:=anf hc
 refine⟨acm (ada (fd:=fd) (body:=body) r.lt (b.k _ hoK) hod h2 hgen hbody ⟨c,oc,cvs,tq,hc1,b.k _ hc2,hc3,hc4⟩ (hbind _ _ _ _ ?_))⟩
 rw[h11]
 refine wpAny_newFunctionEnv_cells h1 (fun x hx=>?_) fun env he s₂ x=>?_
 ·rcases hkind x hx with h | h
  ·exact .inl h
  ·refine .inr ⟨hcl _ h,?_⟩
   obtain⟨i,hi,e⟩:=List.mem_iff_getElem.mp h
   rw[X.lk _ i x.1 (by rw[List.getElem?_eq_getElem hi,e])]; rfl
 ·have he':env=callEnvC fd s.heap.objs.size f:=he
  subst he'
  have b2:Bs w s₂.heap:=b.loc (fun a o J e=>x.toInCall.keep a o e) fun J=>acK
  refine⟨b2.nolimit,adb ?_⟩
  refine aa4 (h _ _ _ (r.deeper _) rfl (X.env s.heap.objs.size f).1 (X.env s.heap.objs.size f).2 (aa0.sep.mp (H.add (aeQ (vcs:=vcs) (vs:=vs) X x hvs hvc hlen)))).go (fun fl s' hq=>?_) fun J J x=>x
  cases fl<;>exact hq
end
noncomputable def plR (P:Addr) (ps:Array Value):Res:=aiM P (fun h=>h.get? P=some { cls:=.none,data:=.fields ps }) (fun h e=>by rw[e]; rfl) fun h h' e k=>k _ e
noncomputable def aiP (c:Addr) (q:Str):Res:=aiM c (fun h=>∃ o vs t,h.get? c=some o∧o.data=.fields vs∧vs[1]? = some (.str q t)) (fun h ⟨_,_,_,e,_⟩=>by rw[e]; rfl) fun h h' ⟨o,vs,t,e,r⟩ k=>⟨o,vs,t,k _ e,r⟩
noncomputable def akF (f:Addr) (fd:FuncData):Res:=aiM f (fun h=>h.get? f=some { cls:=.type "function",data:=.func fd }) (fun h e=>by rw[e]; rfl) fun h h' e k=>k _ e
theorem anE {c:Addr}{q:Str}{s:Shared}(h:(aiP c q).P s):s.heap.CodeRec (.ref c) q:=let ⟨o,vs,t,a,b,d⟩:=h; ⟨c,o,vs,t,rfl,a,b,d⟩
noncomputable def aar:Stmt:=at' (aaa (D 6)) 1
noncomputable def amz:Str := "_make_variable_generator_factory.<locals>._factory"
noncomputable def abQ (L:Addr):Env:=callEnvC anY L 271
noncomputable def aob (L:Addr):List (Str × Addr):=agK (fun x=>((abQ L).cells.lookup x).getD 0) (abm aar).names []
noncomputable def ac9 (L:Addr) (ct cd pm:Value):FuncData:=
 { name := "_factory",qualname:=amz,params:=ab8 aar,body:=.stmts (aaa aar),scope:=abm aar,globals:=mainGlobals,closure:=aob L,closureTuple:=ct,code:=cd,builtins:=builtinsNs,defaults:=.none,kwdefaults:=.none,annotations:=none,pyModule:=pm,doc:=.none }
theorem asM:FnC anY 271 ["_factory"] ["value", "total", "variables", "var_counts"] [] where
 obj P:=⟨kAt P 66,mK 66 (by kernel_rfl),by kernel_rfl⟩
 code P:=⟨270,kAt P 65,aac (kAt P 65),abO (aac (kAt P 65))[1]?,by kernel_rfl,mK 65 (by kernel_rfl),by kernel_rfl,by kernel_rfl⟩
 chk:=by kernel_rfl
 cel n:=by kernel_rfl
noncomputable def acD:Stmt→Pos
 | .FunctionDef _ _ _ _ _ _ _ _ _ p=>p
 | _=>default
theorem aiV:aar=.FunctionDef "_factory" (ab8 aar) (aaa aar) [] none [] (abm aar) none "_factory" (acD aar):=by kernel_rfl
theorem arv (env:Env):(evalEach (ab8 aar).defaults env,evalEachOpt (ab8 aar).kw_defaults env)=([],[]):=by kernel_rfl
theorem atV (env:Env):annTrees (ab8 aar) none env=[]:=by kernel_rfl
theorem kw6:((ab8 aar).kwonlyargs.zip ([]:List (Option Value))).filterMap (fun (a,d)=>d.map (a.arg,·))=[]:=by kernel_rfl
theorem arY (L:Addr):qualnameIn (abQ L) "_factory" "_factory" = amz:=by kernel_rfl
theorem asA (L:Addr):((abm aar).names.all fun x=>x.2 != .free||((abQ L).cells.lookup x.1).isSome)=true:=by kernel_rfl
theorem atK (L:Addr):(aob L).isEmpty=false:=by kernel_rfl
theorem aop (P:Params):mgK P "__builtins__" = some (.ref 4):=by kernel_rfl
noncomputable def acE:Value:=.str "law_jf0029_01" 632
theorem apP {w:World}{h:Heap}{ps:Array Value}(B:Bs w h) (hp:∃ op,h.get? 268=some op∧op.data=.fields ps) (ht:TriplesOk ps.toList):h.IsCode 270 268 ps:=by
 obtain⟨op,ho,hd⟩:=hp
 exact⟨kAt w.params 65,aac (kAt w.params 65), "/claim/cut.py",553,3,0,true,181,0,op,B.k (270,kAt w.params 65) (mK 65 (by kernel_rfl)),by kernel_rfl,by kernel_rfl,by kernel_rfl,by kernel_rfl,by kernel_rfl,by kernel_rfl,ho,hd,ht,by decide⟩
theorem atg {w:World}{h:Heap}{ps:Array Value}(B:Bs w h) (hp:h.get? 268=some { cls:=.none,data:=.fields ps }):h.TableAt 270 268 ps:=
 ⟨⟨kAt w.params 65,aac (kAt w.params 65),B.k (270,kAt w.params 65) (mK 65 (by kernel_rfl)),by kernel_rfl,by kernel_rfl,by kernel_rfl⟩,hp⟩
section
variable {w:World}{A:Around}{s s0:Shared}{L:Addr}{Lr:List Res}{fp:Addr→Prop}{gp:Nat→Prop}
theorem arq {v:Option Value}{T₀:Res}(T:Addr→Res) {Q:Flow→Shared→Prop}(F:aa8 (abQ L) ["_factory"] []) (H:aa0 s (aa1 L (aal ["_factory"] [v])::aa5 w fp gp s0::T₀::Lr))
  (hcode:∀ s₁,aa0 s₁ (aa1 L (aal ["_factory"] [v])::aa5 w fp gp s0::T₀::Lr)→WP w A (functionCode (abQ L) (acD aar) (acD aar).line "_factory" amz (ab8 aar) (abm aar) (.stmts (aaa aar))) (fun cd s₂=>∃ c',cd=.ref c'∧aa0 s₂ (aa1 L (aal ["_factory"] [v])::aa5 w fp gp s0::T c'::Lr) ∧
   ∀ s3 f ct,aa0 s3 (aa1 L (aal ["_factory"] [some (.ref f)])::aa5 w fp gp s0::akF f (ac9 L ct (.ref c') acE)::T c'::Lr)→Q .next s3) s₁):WP w A (exec aar (abQ L)) Q s:=by
 rw[aiV,exec_def,defaultsOf_eq,arv,atV]
 refine .bind (.stand (.bind (.hold ?_)))
 refine .bind (.pure (.bind (.hold (.pure (.hold ?_)))))
 refine .bind (.pure ?_)
 rw[arY,makeFunction_eq,kw6]
 refine .bind (.pure (.bind (.pure (.bind (.pure ?_)))))
 unfold makeTail
 have hcf:=abt (scope:=abm aar) (env:=abQ L) (fun x=>((abQ L).cells.lookup x).getD 0) fun x hx hf=>by
  have:=List.all_eq_true.mp (asA L) x hx
  rw[hf] at this
  obtain⟨a,e⟩:=Option.isSome_iff_exists.mp this
  rw[e]; rfl
 rw[hcf]
 refine .bind (.pure ?_)
 have hcl:(agK (fun x=>((abQ L).cells.lookup x).getD 0) (abm aar).names []).isEmpty=false:=atK L
 refine .bind (.of (wpAny_newTextTuple ?_))
 refine .bind ((hcode _ (H.keep (aci _ s.toks))).mono fun cd s₂ x=>?_)
 obtain⟨c',rfl,H2,hQ⟩:=x
 have B2:=H2.bs
 obtain⟨om,hm1,hm2,hm3,hm4⟩:=B2.bmod
 refine .bind (.of (wpAny_builtinsFor (globals:=(abQ L).globals) B2.mg (aop _) (by decide) hm1 hm2 hm3 hm4 ?_))
 refine .bind (.of (wpAny_nsGet (a:=(abQ L).globals) B2.mg ?_))
 dsimp only
 refine .bind (.pure ?_)
 refine .of (wpAny_newObj_type ?_ (by size_fits))
 refine .bind (.stand (.bind (.bindName ?_)))
 exists sL 0 F (H2.made (R':=akF s₂.heap.objs.size (ac9 L (.ref s.heap.objs.size) (.ref c') acE)) (s':={ s₂ with heap:=s₂.heap.push { cls:=.type "function",data:=.func (ac9 L (.ref s.heap.objs.size) (.ref c') acE) } }) (.of (fun J J e=>Heap.get?_push_of_some _ e) rfl rfl (Heap.get?_push_size _ rfl) aa9 fun J z=>z)) rfl fun s4' H4=>.pure ?_
 exact hQ s4' _ _ H4
end
structure VI where
 a:Addr
 d:Addr
 name:Option Str
 tn:Tok
 count:Nat
 tc:Tok
 min:Nat
 tm:Tok
 dflt:Option Str
 td:Tok
noncomputable def acb:Option Str→Tok→Value
 | none,_=>.none
 | some x,t=>.str x t
noncomputable def VI.items (v:VI):Array Value:=#[acb v.name v.tn,.int v.count v.tc,.int v.min v.tm,acb v.dflt v.td]
noncomputable def VI.R (v:VI):Res:=vwR v.a v.d v.items
noncomputable def acl (vs:List VI):Array Value:=(vs.map fun v=>Value.ref v.a).toArray
noncomputable def aaQ (lv:Addr) (vs:List VI):Res:=aae [aa2 lv (acl vs),aae (vs.map VI.R)]
theorem aaC {lv:Addr}{vs:List VI}{s:Shared}(h:(aaQ lv vs).P s):s.heap.PlainList lv (acl vs):=h.1
theorem aca {lv:Addr}{vs:List VI}{s:Shared}(h:(aaQ lv vs).P s) {v:VI}(hv:v∈vs):(vwR v.a v.d v.items).P s:=aaf.mem h.2.2.1 (VI.R v) (List.mem_map_of_mem hv)
theorem an7 (lv:Addr) (vs:List VI):∀ g,(aaQ lv vs).gp g→False:=fun g ⟨R,m,x⟩=>by
 simp only[List.mem_cons,List.not_mem_nil,or_false] at m
 rcases m with rfl | rfl
 ·exact x
 ·obtain⟨R,m,x⟩:=x
  obtain⟨v,_,rfl⟩:=List.mem_map.mp m
  exact x
theorem acY {vs:List VI}{i:Nat}{v:VI}(h:vs[i]? = some v):(acl vs)[i]? = some (.ref v.a):=by unfold acl; simp[h]
theorem acq {vs:List VI}{i:Nat}(h:vs[i]? = none):(acl vs)[i]? = none:=by unfold acl; simp at h ⊢; exact h
theorem ae3 (o:Option Str) (t:Tok):handedIn (acb o t)=true:=by cases o<;>rfl
section
variable {w:World}{A:Around}{s:Shared}{v:VI}{Q:Value→Shared→Prop}
theorem aeZ (r:aah A 2 10) (B:Bs w s.heap) (hv:(vwR v.a v.d v.items).P s) (h:∀ s',acZ s s'→Q (acb v.name v.tn) s'):WP w A (getAttr (.ref v.a) "name" true) Q s:=an8 r B hv rfl (ae3 _ _) h
theorem alY (r:aah A 2 10) (B:Bs w s.heap) (hv:(vwR v.a v.d v.items).P s) (h:∀ s',acZ s s'→Q (.int v.count v.tc) s'):WP w A (getAttr (.ref v.a) "count" true) Q s:=alu r B hv rfl rfl h
theorem aqe (r:aah A 2 10) (B:Bs w s.heap) (hv:(vwR v.a v.d v.items).P s) (h:∀ s',acZ s s'→Q (.int v.min v.tm) s'):WP w A (getAttr (.ref v.a) "minimum" true) Q s:=air r B hv rfl rfl h
theorem akw (r:aah A 2 10) (B:Bs w s.heap) (hv:(vwR v.a v.d v.items).P s) (h:∀ s',acZ s s'→Q (acb v.dflt v.td) s'):WP w A (getAttr (.ref v.a) "default" true) Q s:=aih r B hv rfl (ae3 _ _) h
end
noncomputable def al8 (c:Addr):Array Value:=#[rawInt (acD aar).line,rawInt (acD aar).col,.ref c]
noncomputable def aat:Option Addr→Res
 | none=>plR 268 #[]
 | some c=>aae [plR 268 (al8 c),aiP c amz]
theorem akY (st:Option Addr):∀ g,(aat st).gp g→False:=by
 cases st with
 | none=>exact fun J z=>z
 | some c=>exact aba ⟨fun J z=>z,fun J z=>z,trivial⟩
section
variable {w:World}{A:Around}{s s0:Shared}{L:Addr}{Lr:List Res}{fp:Addr→Prop}{gp:Nat→Prop}{R:Res}
theorem akX {st:Option Addr}{Q:Value→Shared→Prop}(H:aa0 s (R::aa5 w fp gp s0::aat st::Lr)) (h:∀ s₂ c,(∀ c0,st=some c0→c=c0)→aa0 s₂ (R::aa5 w fp gp s0::aat (some c)::Lr)→Q (.ref c) s₂) :
  WP w A (functionCode (abQ L) (acD aar) (acD aar).line "_factory" amz (ab8 aar) (abm aar) (.stmts (aaa aar))) Q s:=by
 cases st with
 | none=>
  have hp:(plR 268 #[]).P s:=H.at [_,_]
  have hok:=apP H.bs ⟨_,hp,rfl⟩ (ps:=#[]) trivial
  have h268:268<s.heap.objs.size:=hok.lt.2
  exact .of (wpAny_functionCodeX (c:=270) (P:=268) (ps:=#[]) rfl hok (atg H.bs hp) rfl fun c' h' tk hx hge hlt hok' hrec ht' J=>h _ c' (fun J e=>nomatch e) (H.updAt [_,_] ⟨⟨fun a o ha e=>hx a o ha e,fun g hg J=>rfl,rfl⟩,fun g x e hc hn=>by
   rcases hc with hc | hc
   ·have:=(Array.getElem?_eq_some_iff.mp e).1
    exact absurd hc (Nat.not_le.mpr this)
   ·exact hc.elim,by
   obtain⟨c2',o2',vs2',t₂,e2',r2'⟩:=hrec
   cases e2'
   refine⟨ht'.2,fun R' m=>?_,⟨o2',vs2',t₂,r2'⟩,fun J m=>(nomatch m),trivial⟩
   rcases List.mem_singleton.mp m with rfl
   exact⟨fun a e e'=>by
    have e2:(268:Nat)=c':=Eq.trans (Eq.symm e) e'
    lia,fun J z=>z.elim⟩,fun a ⟨R',m,x⟩=>by
   simp only[List.mem_cons,List.not_mem_nil,or_false] at m
   rcases m with rfl | rfl
   ·exact .inl x
   ·refine .inr ?_
    have x':a=c':=x
    cases hq:s.heap.get? a with
    | none=>rfl
    | some o=>exact absurd (Heap.lt_size hq) (by rw[x']; exact Nat.not_lt.mpr hge),fun g ⟨R',m,x⟩=>by
   simp only[List.mem_cons,List.not_mem_nil,or_false] at m
   rcases m with rfl | rfl<;>exact x.elim⟩))
 | some c=>
  have hp:(plR 268 (al8 c)).P s:=(H.at [_,_]).1
  exact .of (wpAny_functionCode_hit (c:=270) (P:=268) rfl (apP H.bs ⟨_,hp,rfl⟩ trivial) (by kernel_rfl) (h s c (fun J e=>Option.some.inj e) H))
end
noncomputable def apl:Expr:=asE (at' (aaa (D 6)) 0)
noncomputable def ad6 (vs:List VI):List Value:=vs.map fun v=>.int v.count v.tc
structure Fac where
 f:Addr
 L:Addr
 c:Addr
 ct:Value
 k:Int
 tk:Tok
 n:Int
 tn:Tok
 lc:Addr
noncomputable def Fac.R (F:Fac) (lv:Addr) (vs:List VI):Res:=
 aae [akF F.f (ac9 F.L F.ct (.ref F.c) acE),aai (F.L+1:Nat) (some (.int F.k F.tk)),aai (F.L+2:Nat) (some (.int F.n F.tn)),aai (F.L+3:Nat) (some (.ref lv)),aai (F.L+4:Nat) (some (.ref F.lc)),aa2 F.lc (ad6 vs).toArray]
theorem Fac.R_gp (F:Fac) (lv:Addr) (vs:List VI):∀ g,(F.R lv vs).gp g→False:=aba ⟨fun J z=>z,fun J z=>z,fun J z=>z,fun J z=>z,fun J z=>z,fun J z=>z,trivial⟩
theorem ahA {w:World}{A:Around}{s:Shared}{env:Env}{x:Str}{pos' pos:Pos}{value:Expr}{Q:Flow→Shared→Prop}(hk:env.kindOf x=some .cell) (hs:∀ b,(b&&(env.kindOf x==some .local))=false→swapsWith value (some (.Name x pos')) pos.line env=pure false)
  (h:WP w A (eval value env) (fun v s₁=>WP w A (storeName env x v) (fun J=>Q .next) s₁) s):WP w A (exec (.Assign [.Name x pos'] value pos) env) Q s:=
 ac8 h (hs true (by rw[hk]; rfl))
theorem aoL {w:World}{A:Around}{s:Shared}{st:Option Addr}{lv:Addr}{vs:List VI}{k n:Int}{tk tn:Tok}{Q:Value→Shared→Prop}(r:aah A 3 13) (B:Bs w s.heap) (hn:vs.length≤100)
  (hp:(aae [aat st,aaQ lv vs]).P s) (hf:freeK (aae [aat st,aaQ lv vs]))
  (h:∀ s' (F:Fac) c,(∀ c0,st=some c0→c=c0)→F.k=k→F.n=n→F.c=c→Chg (aae [aat st,aaQ lv vs]) (aae [aat (some c),aaQ lv vs,F.R lv vs]) s s'→Q (.ref F.f) s'):WP w A (call (.ref 271) [.int k tk,.int n tn,.ref lv]) Q s:=by
 exists akb (d:=2) (u:=10) (vs:=[none]) (vcs:=[some (.int k tk),some (.int n tn),some (.ref lv),none]) (binds:=[("value",.int k tk),("total",.int n tn),("variables",.ref lv)]) asM r B (aa0.startR B hp hf) rfl (BindsTo.of_eq (by kernel_rfl)) ?_ (by decide +kernel) ?_ ?_ rfl fun A' env s₁ r' he F C H=>?_
 ·intro x hx
  simp only[List.mem_cons,List.not_mem_nil,or_false] at hx
  rcases hx with rfl | rfl | rfl
  ·exact .inr (.head _)
  ·exact .inr (.tail _ (.head _))
  ·exact .inr (.tail _ (.tail _ (.head _)))
 ·intro y
  have e:bindL (fun x=>anY.scope.names.lookup x) [("value",.int k tk),("total",.int n tn),("variables",.ref lv)] (fun J=>none) y=none:=by kernel_rfl
  unfold aal
  split<;>rfl
 ·intro i nm v h1 h2
  match i,h1,h2 with
  | 0,h1,h2=>cases h1; cases h2; kernel_rfl
  | 1,h1,h2=>cases h1; cases h2; kernel_rfl
  | 2,h1,h2=>cases h1; cases h2; kernel_rfl
  | 3,h1,h2=>cases h1; cases h2; kernel_rfl
  | i+4,h1,h2=>simp at h1
 replace H:aa0 s₁ (aa1 env.locals (aal ["_factory"] [none])::aai (env.locals+1:Nat) (some (.int k tk))::aai (env.locals+2:Nat) (some (.int n tn))::aai (env.locals+3:Nat) (some (.ref lv))::aai (env.locals+4:Nat) none::aa5 w (aae [aat st,aaQ lv vs]).fp (aae [aat st,aaQ lv vs]).gp s::aae [aat st,aaQ lv vs]::[]):=H
 replace H:=aa0.sep.mp (H.pick [6,0,5,1,2,3,4] 7)
 replace H:=H.pick [2,3,0,1,4,5,6,7] 8
 dsimp only[ac7,ac4,aeA,abV,List.cons_append,List.nil_append,List.append] at H
 have hk:env.kindOf "var_counts" = some .cell:=C.kind 3 _ rfl
 exists aa7 ?_
 refine ahA hk (fun b e=>congrArg pure (by rw[hk]; grind)) ?_
 exists agq F aap.nil [".0", "v"] [] ?_,dLC [_,_,_,_,_,_] 2 F C H ?_,aaM (aaC (H.at [_,_,_])).isList H fun s₂ it H=>?_
 refine⟨_,_,_,H,fun cenv acc s3 Fc Cc H=>?_⟩
 refine abj [_,_,_,_] H ?_
 refine CP.mono (abb (elt:=lE apl) (target:=(lG apl).target) (iter:=(lG apl).iter) (ifs:=[]) (scope:=lS apl) (pos:=lP apl) (fun m s'=>∃ i vr,m=vs.length - i∧i≤vs.length∧aa0 s' (aa1 cenv.locals (aal [".0", "v"] [none,vr])::aa1 env.locals (aal ["_factory"] [none])::aa5 w (aae [aat st,aaQ lv vs]).fp (aae [aat st,aaQ lv vs]).gp s::aa2 acc (ad6 (vs.take i)).toArray::abx it lv i::aat st::aaQ lv vs::aai (env.locals+1:Nat) (some (.int k tk))::aai (env.locals+2:Nat) (some (.int n tn))::aai (env.locals+3:Nat) (some (.ref lv))::aai (env.locals+4:Nat) none::[])) (fun s'=>∃ vr,aa0 s' (aa1 cenv.locals (aal [".0", "v"] [none,vr])::aa1 env.locals (aal ["_factory"] [none])::aa5 w (aae [aat st,aaQ lv vs]).fp (aae [aat st,aaQ lv vs]).gp s::aa2 acc (ad6 vs).toArray::emp::aat st::aaQ lv vs::aai (env.locals+1:Nat) (some (.int k tk))::aai (env.locals+2:Nat) (some (.int n tn))::aai (env.locals+3:Nat) (some (.ref lv))::aai (env.locals+4:Nat) none::[])) (fun m s' hI=>?_) _ ⟨0,none,rfl,Nat.zero_le _,H⟩) (fun f s4' ⟨_,vr,H⟩=>⟨_,_,H,fun s5 H=>?_⟩)
 ·obtain⟨i,vr,e,hi,H⟩:=hI
  cases hr:vs[i]? with
  | none=>
   exists abF [_,_,_,_] r'.handled H (aaC (H.at [_,_,_,_,_,_])).isList (acq hr) fun s₂ H=>?_
   refine⟨vr,?_⟩
   have e0:vs.take i=vs:=List.take_of_length_le (by simpa using hr)
   rw[e0] at H
   exact H
  | some v=>
   have hlt:=(List.getElem?_eq_some_iff.mp hr).1
   exists aaN [_,_,_,_] H (aaC (H.at [_,_,_,_,_,_])).isList (acY hr) fun s₂ H=>?_,0,goS 1 Fc H rfl fun s₂ H=>?_,acF ?_,dL 1 Fc H rfl ?_
   refine alY (r'.mono (by exact lb rfl) (by exact lb rfl)) (aa0.bs (H.pick [1,2,0] 3)) (aca (H.at [_,_,_,_,_,_]) (List.mem_of_getElem? hr)) fun s3 kp=>?_
   replace H:=H.keep kp
   exists abE [_,_,_] H ?_ fun s4' H=>?_
   ·unfold ad6
    simp
    lia
   refine⟨vs.length - (i+1),by exact q1 ‹_› ‹_›,i+1,some (.ref v.a),rfl,hlt,?_⟩
   have e2:(ad6 (vs.take (i+1))).toArray=(ad6 (vs.take i)).toArray.push (.int v.count v.tc):=by
    unfold ad6
    rw[List.take_add_one,hr]
    simp
   rw[e2]
   exact H
 ·exists sLC [_,_,_,_,_,_,_,_,_] 3 F C H fun s6 H=>?_
  replace H:=H.pick [3,0,1,4,2,5,6,7,8,9] 10
  dsimp only[ac7,ac4,aeA,abV,List.cons_append,List.nil_append,List.append] at H
  replace H:=H.cut 1
  dsimp only[ac7,ac4,aeA,abV,List.cons_append,List.nil_append,List.append] at H
  generalize hL:env.locals=L0 at *
  have e2:env=abQ L0:=he
  subst e2
  exists aa7 ?_,arq (T₀:=aat st) (fun c=>aat (some c)) F H fun s₁ H=>?_
  refine akX H fun s₂ c hcc H=>?_
  refine⟨c,rfl,H,fun s3 f ct H=>?_⟩
  exists 0,aa7 ?_,agD ?_,dL 0 F H rfl ?_
  exact h s3 ⟨f,L0,c,ct,k,tk,n,tn,acc⟩ c hcc rfl rfl rfl (aa0.outR (((aa0.sep (L:=[_,_,_])).mpr (((aa0.sep (L:=[_,_,_,_,_,_])).mpr (H.pick [2,6,7,8,9,4,0,1,3,5] 10)).pick [3,4,0,1,2] 5)).pick [1,2,0] 3))
noncomputable def asW:Option Str→Value→Bool
 | none,.none=>true
 | some x,.str y _=>y==x
 | _,_=>false
set_option tactic.hygienic true in
theorem ab2 {k:Option Str}{v:Value}(h:asW k v=true):(k=none∧v=.none)∨∃ x t,k=some x∧v=.str x t:=by
 cases k with
 | none=>cases v<;>first | exact .inl ⟨rfl,rfl⟩ | cases h
 | some x=>
  cases v<;>first | cases h | skip
  rename_i y t
  exact .inr ⟨x,t,rfl,by rw[beq_iff_eq.mp h]⟩
theorem ab9:Slot "NoneType" "__hash__" "NoneType.__hash__":=
 .of (owner := "NoneType") (n := "__hash__") (by rw[typeLookup_type,builtinLookup_eq_fast]; kernel_rfl) (by decide +kernel) (by decide +kernel) (by decide +kernel)
  (by first | exact .inl (by decide +kernel) | exact .inr (by decide +kernel)) (by rw[isSubtype_type]; kernel_rfl)
theorem adV:entryFor table "NoneType.__hash__" = some Builtin.«NoneType.__hash__»:=entryFor_of_tree (by kernel_rfl)
theorem aet (a:Value):argsOk "NoneType.__hash__" ⟨[a],[]⟩:=by unfold argsOk; kernel_rfl
section
variable {prog:Program}{w:World}{A:Around}{E:Value→Shared→Prop}{s:Shared}
theorem aiN {Q:Int→Shared→Prop} (h:Q 4238894112 { s with toks:=s.toks+1 }):wpAny (model prog w) A (pyHash .none) Q E s:=by
 have hT:s.TypeIs .none "NoneType" := rfl
 have hv:[Value.none].any Value.onHeap=false:=rfl
 refine wpAny_bind ?_
 rw[cRoomFor,if_neg (by rw[hv]; exact Bool.false_ne_true)]; refine wpAny_pure ?_
 refine wpAny_bind (wpAny_specialOf hT ab9.lookup ?_)
 show wpAny _ _ (if (some (Value.builtin "NoneType.__hash__")==some Value.none)=true then _ else _) Q E s
 refine wpAny_bind (wpAny_specialOf hT ab9.lookup ?_)
 refine wpAny_bind (wpAny_callSpecialIfBoundUnlessNone?_slot hT ab9
  (wpAny_call_entry ab9 hT adV
   (show wpAny _ _ (do ret (← mkInt 0xFCA86420)) _ _ s from wpAny_ret_mkInt ?_) (aet _)))
 refine wpAny_pure ?_
 exact h
end
noncomputable def acy (w:World):KeyKind pw w (Option Str) where
 is:=asW
 hash:=fun k=>match k with | none=>4238894112 | some x=>hashStr w x
 inj:=fun v a b ha hb=>by
  rcases ab2 ha with⟨rfl,rfl⟩ | ⟨x,t,rfl,rfl⟩<;>rcases ab2 hb with⟨rfl,e⟩ | ⟨y,u,rfl,e⟩
  ·rfl
  ·cases e
  ·cases e
  ·injection e with e1; rw[e1]
 byValue:=fun k v h=>by rcases ab2 h with⟨rfl,rfl⟩ | ⟨x,t,rfl,rfl⟩<;>rfl
 pyHash:=fun hv h=>by
  rcases ab2 hv with⟨rfl,rfl⟩ | ⟨x,t,rfl,rfl⟩
  ·exact aiN h
  ·exact wpAny_pyHash_str h
 eqBool:=fun hu hv h=>by
  rcases ab2 hu with⟨rfl,rfl⟩ | ⟨x,t,rfl,rfl⟩<;>rcases ab2 hv with⟨rfl,rfl⟩ | ⟨y,u,rfl,rfl⟩
  ·unfold PySem.eqBool
   refine wpAny_holding ?_
   show wpAny _ _ (PySem.rule "eq-bool.same-object" >>= fun J=>pure true) _ _ _
   exact wpAny_bind (wpAny_rule (wpAny_pure (by simpa using h)))
  ·unfold PySem.eqBool
   refine wpAny_holding ?_
   show wpAny _ _ (richCompare .Eq (Value.none) (Value.str y u) >>= fun r=>truthOfDropped r) _ _ _
   exact wpAny_bind (EqNone.eq_none_str (wpAny_truthy_bool (by simpa using h)))
  ·unfold PySem.eqBool
   refine wpAny_holding ?_
   show wpAny _ _ (richCompare .Eq (Value.str x t) (Value.none) >>= fun r=>truthOfDropped r) _ _ _
   exact wpAny_bind (EqNone.eq_str_none (wpAny_truthy_bool (by simpa using h)))
  ·exact wpAny_eqBool_str (by simpa using h)
 «strs»:=fun k x t v h=>by
  rcases ab2 h with⟨rfl,e⟩ | ⟨y,u,rfl,e⟩
  ·cases e
  ·injection e with e1 _
   subst e1
   cases v<;>rfl
noncomputable def ab7 (w:World) (d:Addr) (kvs:List (Option Str × Value)):Res:=aiM d (fun h=>h.DictOf (acy w) d kvs∧(d==sysModules)=false) (fun h ⟨⟨o,_,_,e,_⟩,_⟩=>by rw[e]; rfl) fun h h' ⟨x,e⟩ k=>⟨x.at k,e⟩
section
variable {w:World}{A:Around}{s s0:Shared}{env:Env}{L:List Res}{ns gs:List Str}{d:Addr}{kvs:List (Option Str × Value)}{k:Option Str}{key v:Value}
theorem ad8 (o:Option Str) (t:Tok):(acy w).is o (acb o t)=true:=by
 cases o with
 | none=>rfl
 | some x=>show (x==x)=true; simp
theorem ao9 {value slice:Expr} {ops:List Value} {Q:Value→Shared→Prop} (hd:(ab7 w d kvs).P s) (hkey:(acy w).is k key=true) (hv:valueAt kvs k=some v) (h:Q v { s with toks:=s.toks+1 })
  (hs:subscripted slice false (.ref d) key=operate ops (getItem (.ref d) key)):WP w A (subscriptTail value slice (.ref d) key) Q s:=
 .of (tail_any hd.1.typeIs slot_dict_getitem.lookup (wpAny_getItem_of hkey hd.1.mapOf hv h) hs)
theorem arh {Q:Unit→Shared→Prop}(M:List Res) (H:aa0 s (M++ab7 w d kvs::L)) (hkey:(acy w).is k key=true) (hn:kvs.length≤1000) (h:∀ s',aa0 s' (M++ab7 w d (stored kvs k v)::L)→Q () s'):WP w A (setItem (.ref d) key v) Q s:=
 .of (wpAny_setItem_pairs hkey (H.at M).1 (fun h' hm hs=>h _ (H.updAt M (aaB hs (s.toks+1) rfl rfl rfl rfl ⟨hm,(H.at M).2⟩))) (Nat.le_trans hn aan))
theorem atM {Q:Value→Shared→Prop} (hd:(ab7 w d kvs).P s) (hkey:(acy w).is k key=true) (h:Q (.bool (valueAt kvs k).isSome) { s with toks:=s.toks+1 }):WP w A (compareOp .In key (.ref d)) Q s:=
 .of (wpAny_in_of hkey hd.2 hd.1.mapOf h)
theorem arS {Q:Value→Shared→Prop} (hd:(ab7 w d kvs).P s) (hn:kvs.length≤1000) (h:Q (.int kvs.length (s.toks+1)) { s with toks:=s.toks+1+1 }):WP w A (call (.builtin "len") [.ref d]) Q s:=
 .of (call_len_dict hd.2 hd.1 (by exact q8 ‹_›) h)
theorem asi {Q:Unit→Shared→Prop}(M:List Res) (H:aa0 s (M++ab7 w d kvs::L)) (hkey:(acy w).is k key=true) (hl:(valueAt kvs k).isSome=true) (hn:kvs.length≤1000) (h:∀ s',aa0 s' (M++ab7 w d (without kvs k)::L)→Q () s'):WP w A (delItem (.ref d) key) Q s:=by
 have hD:=(H.at M).1
 refine .of ?_
 unfold delItem
 try with_reducible refine wpAny_holding ?_
 refine wpAny_bind (wpAny_sequenceKey hD.typeIs (by decide) ?_)
 refine wpAny_bind (wpAny_callSpecial?_slot (name:=Str.ofString "__delitem__") hD.typeIs PySem.F.slot_dict_delitem
  (call_meetsIn PySem.F.slot_dict_delitem hD.typeIs PySem.F.entry_dict_delitem (PySem.F.args_dict_delitem_2 _ _) (meets_dict_delitem_pairs (acy w) d hkey) ⟨kvs,hD,Nat.le_trans hn aan,hl,fun h' hmm hs=>?_⟩))
 exact wpAny_pure (h _ (H.updAt M (aaB hs (s.toks+1) rfl rfl rfl rfl ⟨hmm,(H.at M).2⟩)))
theorem afu {R:Res}(B:Bs w s.heap):(s.heap.objs.size==sysModules)=false:=by
 obtain⟨o,ho,_⟩:=B.bmod
 have:=Heap.lt_size ho
 have e:sysModules=1:=rfl
 exact beq_eq_false_iff_ne.mpr fun x=>by
  have x':s.heap.objs.size=1:=x
  rw[x'] at this
  exact absurd this (by decide)
theorem apD {R R₂:Res}{Q:Value→Shared→Prop}(B:Bs w s.heap) (H:aa0 s (R::R₂::L)) (hd:(ab7 w d kvs).P s) (hn:kvs.length≤1000) (h:∀ s' d',aa0 s' (R::R₂::ab7 w d' kvs::L)→Q (.ref d') s'):WP w A (call (.type "dict") [.ref d]) Q s:=
 .of (kt_call_dict (knd:=acy w) hd.2 hd.1 (Nat.le_trans hn aan) fun h' hm hs=>h _ _ (H.made (R':=ab7 w s.heap.objs.size kvs) (.of (fun b o e=>(hs.2 b (Nat.ne_of_lt (Heap.lt_size e))).trans (Heap.get?_push_of_some _ e)) rfl rfl ⟨hm,afu (R:=emp) B⟩ aa9 fun J z=>z)))
end
section
variable {w:World}{A:Around}{s s0:Shared}{env:Env}{L:List Res}{ns gs:List Str}
noncomputable def aaP (Q:Shared→Prop):Result→Shared→Prop:=fun r s'=>match r with | .ok (.ret v)=>v=.none∧Q s' | .ok _=>False | .error e=>F0 e s'
theorem aeE {T newId initId:String}{Bi:Builtin}{args:List Value}{Q Q₁:Value→Shared→Prop}(ft:TypeCalled T newId initId) (hct:checkTypeCall T ⟨args,[]⟩=pure ()) (entryI:entryFor table initId=some Bi)
  (hnew:aaA (model pw w) A.in1 (.call (.builtin newId) ⟨.type T::args,[]⟩) (fun r s'=>match r with | .ok (.ret v)=>Q₁ v s' | .ok _=>False | .error e=>F0 e s') s)
  (hnext:∀ obj s₁,Q₁ obj s₁→s₁.TypeIs obj T∧argsOk initId ⟨obj::args,[]⟩ ∧
   wpX (model pw w) A.in1.in1 (Bi ⟨obj::args,[]⟩) (fun fin s'=>match fin with | .done f=>aaP (Q obj) (.ok f) s' | .again c'=>c'.quiet=true∧aaA (model pw w) A.in1 c' (aaP (Q obj)) s') (fun e s'=>aaP (Q obj) (.error e) s') s₁) :
  WP w A (call (.type T) args) Q s:=by
 obtain⟨c,tl,hmro⟩:=ft.mro
 exists abN (aax ?_)
 refine aag ⟨Code.quiet_builtin _ (by decide +kernel),acp F.entry_type_call ?_⟩
 simp only[Around.under_plain (weight_type_call_type T args []) rfl]
 refine apv ?_
 unfold Builtin.«type.__call__»
 dsimp only
 rw[ft.notType]
 simp only[Bool.false_eq_true,if_false]
 show WP w _ (if _ then _ else _) _ _
 refine WP.ite ?_
 refine ifN ((by rw[ft.canCreate]; decide)) ?_
 rw[hct]
 refine .bind (.pure ?_)
 rw[hmro]
 refine .bind (.pure ?_)
 rw[ft.made]
 refine .bind (.pure ?_)
 refine .bind (.pure ?_)
 refine .bind (.hold (abN (abl hnew fun r s₁ hr=>?_)))
 cases r with
 | error e=>exact hr
 | ok fl=>
  cases fl with
  | ret obj=>
   obtain⟨hT,hok,hsi⟩:=hnext _ _ hr
   show WP w _ _ _ s₁
   refine .bind (.bind (.of (wpAny_typeOf hT ?_)))
   simp only[ft.sub]
   refine .pure ?_
   refine .bind (.hold (.bind (.bind (.of (wpAny_typeOf hT ?_)))))
   simp only[ft.init.lookup]
   refine .pure ?_
   dsimp only
   rw[ft.init.bind]
   have hcall:WP w A.in1 (PySem.call (.builtin initId) ([obj]++args)) (fun v s'=>v=.none∧Q obj s') s₁:=
    abN (ac0 (plainId_quiet ft.init.plain _) entryI (aa4 (abM (E:=F0) (ft.init.check _ _ _ _ _ _ _ (fun J s₂=>wpX (model pw w) (A.in1.under (.builtin initId ⟨obj::args,[]⟩)) (Bi ⟨obj::args,[]⟩) (fun fin s'=>match fin with | .done f=>aaP (Q obj) (.ok f) s' | .again c'=>c'.quiet=true∧aaA (model pw w) A.in1 c' (aaP (Q obj)) s') (fun e s'=>aaP (Q obj) (.error e) s') s₂) hT hok (by
     rw[Around.under_plainId ft.init.plain]; exact hsi))) (fun J J x=>x) fun J J x=>x.elim))
   refine .hold (.bind (.pure (.bind (hcall.mono fun v s' hv=>.pure ?_))))
   obtain⟨rfl,hv⟩:=hv
   exact .pure hv
  | _=>exact hr.elim
theorem apr {l:Addr}{items:Array Value}{x:Value}{Q:Unit→Shared→Prop}(M:List Res) (H:aa0 s (M++aa2 l items::L)) (hn:items.size≤1000) (h:∀ s',aa0 s' (M++aa2 l (items.push x)::L)→Q () s'):WP w A (Builtin.List.listUpdate (.ref l) (·.push x)) Q s:=by
 obtain⟨n,ho⟩:=H.at M
 refine .of ?_
 refine wpAny_updateSeq ho rfl (h _ (H.updAt M (aaB (Heap.SameBut.update ..) s.toks rfl rfl rfl rfl ⟨n+1,?_⟩))) (Nat.le_trans hn aan)
 show (s.heap.update l _).get? l=_
 rw[Heap.get?_update_self _ ho (by rw[Obj.mapSeq_push_plain]; rfl),Obj.mapSeq_push_plain]
end
noncomputable def aoP (o:List Int):PyData:=.tuple (o.map .int)
theorem RDs.ints {D:List Fz}:∀ {vs:List Value}{ns:List Int},IntsAre vs ns→RDs D vs (ns.map .int)
 | _,_,.nil=>.nil
 | _,_,.cons n t h=>.cons (.int n t) (RDs.ints h)
noncomputable abbrev aq5 (S a:Addr):Args:=⟨[.ref S,.ref a,.none],[]⟩
theorem adr (args:Args):(Code.builtin "list.extend.loop" args).quiet=true:=plainId_quiet F.plain_extend_loop _
theorem ads:entryFor table "list.extend.loop" = some Builtin.«list.extend.loop»:=entryFor_of_tree (by kernel_rfl)
section
variable {w:World}{s0:Shared}{L:List Res}{R₁:Res}{fp:Addr→Prop}{gp:Nat→Prop}{S a:Addr}{g d u:Nat}{P:Shared→Prop}
theorem an3:∀ (os:List (List Int)) gs R,aaq w d u dS os gs R→∀ A,aah A (d+1) (u+2)→∀ s acc D ds,RDs D acc.toList ds→acc.size+os.length≤1000→
   aa0 s (R₁::aa5 w fp gp s0::([aa2 S acc,fzR D]++([aak a g false gs,R,emp]++L)))→
   (∀ s' acc' D',RDs D' acc'.toList (ds++os.map aoP)→aa0 s' (R₁::aa5 w fp gp s0::([aa2 S acc',fzR D']++emp::L))→P s')→
   aaA (model pw w) A (.builtin "list.extend.loop" (aq5 S a)) (aaP P) s:=by
 intro os
 induction os with
 | nil=>
  intro gs R G A r s acc D ds hd hn H h
  refine acp ads ?_
  refine aa4 (E:=F0) (Q:=fun fin s'=>fin=.done (.ret .none)∧P s') ?_ (fun fin s' x=>?_) fun J J x=>x.elim
  ·refine (show WP w A.in1 (pyNext (.ref a) >>= _) _ s from ?_).go
   refine .bind (agB (S:=dS) (x:=()) (d:=d) (u:=u) [_,_] (r.mono (Nat.le_refl _) (Nat.le_refl _):aah A (d+1) (u+1+1)).in1 G H fun s' H'=>?_)
   exact .pure ⟨rfl,h s' acc D (by simpa using hd) H'⟩
  ·obtain⟨rfl,x⟩:=x
   exact⟨rfl,x⟩
 | cons o os ih=>
  intro gs R G A r s acc D ds hd hn H h
  refine acp ads ?_
  refine aa4 (E:=F0) (Q:=fun fin s'=>fin=.again (.builtin "list.extend.loop" (aq5 S a))∧aaA (model pw w) A (.builtin "list.extend.loop" (aq5 S a)) (aaP P) s') ?_ (fun fin s' x=>?_) fun J J x=>x.elim
  ·refine (show WP w A.in1 (pyNext (.ref a) >>= _) _ s from ?_).go
   refine .bind (aeH (S:=dS) (x:=()) (d:=d) (u:=u) [_,_] (r.mono (Nat.le_refl _) (Nat.le_refl _):aah A (d+1) (u+1+1)).in1 G H fun v gs' R' RY y s' ho hG H=>?_)
   obtain⟨t,vs,rfl,rfl,hi⟩:=ho
   cases y
   dsimp only
   refine .bind (apr [_,_] H (by simp at hn; omega) fun s' H=>.pure ⟨rfl,?_⟩)
   have H2:=aa0.fzAdd [_,_,_] ⟨true,t,vs.toArray⟩ (H.pick [0,1,2,3,6,4,5,7] 8)
   refine ih gs' R' hG A r s' _ _ (ds++[aoP o]) ?_ (by simp at hn ⊢; omega) H2 fun s' acc' D' hd' H'=>h s' acc' D' (by simpa using hd') H'
   rw[Array.toList_push]
   exact RDs.append (hd.mono fun f m=>.tail _ m) (.cons (.tuple (.head _) (RDs.ints hi)) .nil)
  ·obtain⟨rfl,x⟩:=x
   exact⟨adr _,x⟩
theorem al3 {A:Around}{s:Shared}{os gs}{R R₂:Res}{Q:Value→Shared→Prop}(r:aah A (d+1) (u+4)) (G:aaq w d u dS os gs R) (hn:os.length≤1000) (H:aa0 s (R₁::aa5 w fp gp s0::aak a g false gs::R::L))
  (h:∀ s' v D,aa0 s' (R₁::aa5 w fp gp s0::fzR D::L)→RD D v (.list (os.map aoP))→Q v s'):WP w A (call (.type "list") [.ref a]) Q s:=by
 exists aeE (Q₁:=fun obj s₁=>obj=.ref s.heap.objs.size∧s₁={ s with heap:=s.heap.push { cls:=.type "list",data:=.seq #[] } }) F.called_list (F.typeCall_list_1 _) F.entry_list_init (abl (adJ (code_list_new (prog:=pw) (w:=w) (A:=A.in1) (s:=s) (E:=F0) (Q₁:=fun obj s₁=>obj=.ref s.heap.objs.size∧s₁={ s with heap:=s.heap.push { cls:=.type "list",data:=.seq #[] } }) (.ref a) ⟨rfl,rfl⟩)) fun r s' x=>?_) ?_
 ·rcases r with e | (v | _ | _ | _)<;>first | exact x | exact x.elim
 rintro obj s₁ ⟨rfl,rfl⟩
 have H1:=H.made (R':=aa2 s.heap.objs.size #[]) (s':={ s with heap:=s.heap.push { cls:=.type "list",data:=.seq #[] } }) (.of (fun J J e=>Heap.get?_push_of_some _ e) rfl rfl ⟨_,Heap.get?_push_size _ rfl⟩ aa9 fun J z=>z)
 have hS:(s.heap.push { cls:=.type "list",data:=.seq #[] }).get? s.heap.objs.size=some { cls:=.type "list",data:=.seq #[] }:=Heap.get?_push_size _ rfl
 refine⟨⟨_,hS,rfl⟩,F.args_list_init_2 _ _,?_⟩
 have body:WP w A.in1.in1 (Builtin.«list.__init__» ⟨[.ref s.heap.objs.size,.ref a],[]⟩) (fun fin s'=>fin=.again (.builtin "list.extend.loop" (aq5 s.heap.objs.size a))∧aaA (model pw w) A.in1 (.builtin "list.extend.loop" (aq5 s.heap.objs.size a)) (aaP (Q (.ref s.heap.objs.size))) s') { s with heap:=s.heap.push { cls:=.type "list",data:=.seq #[] } }:=by
  show WP w A.in1.in1 (do let old ← Builtin.List.listItems (.ref s.heap.objs.size); Builtin.List.listUpdate (.ref s.heap.objs.size) (fun J=>#[]); letGo old.toList.reverse; Builtin.List.listExtendWith (.ref s.heap.objs.size) (.ref a) .none) _ _
  refine .bind (.of (wpAny_bind (wpAny_seqItems hS rfl (wpAny_pure ?_))))
  refine .bind (.of (wpAny_updateSeq hS rfl ?_))
  have H2:=H1.updAt [_,_] (R':=aa2 s.heap.objs.size #[]) (aaB (h':=(s.heap.push { cls:=.type "list",data:=.seq #[] }).update s.heap.objs.size (Obj.mapSeq (fun J=>(#[]:Array Value)))) (Heap.SameBut.update ..) s.toks rfl rfl rfl rfl ⟨_,Heap.get?_update_self (Obj.mapSeq (fun J=>(#[]:Array Value))) hS rfl⟩)
  refine .bind (.of (wpAny_letGo ?_))
  have hne:s.heap.objs.size≠a:=(H2.apart (M:=[]) [_,_]).1 _ rfl
  refine .bind (.of (wpAny_typeOf ((H2.at [_,_,_]).1.typeIs) ?_))
  have h1:Builtin.List.listSameRef (.ref s.heap.objs.size) (.ref a)=false:=by simp[Builtin.List.listSameRef,hne]
  have h2:(Value.type "generator" == Value.type "list")=false:=by decide
  have h3:(Value.type "generator" == Value.type "tuple")=false:=by decide
  simp only[h1,h2,h3,Bool.or_false,Bool.false_eq_true,if_false]
  refine .bind (adt (H2.at [_,_,_]).1 ?_)
  refine .bind (.hold ?_)
  unfold Builtin.List.listLengthHint
  refine .bind (.of (wpAny_specialOf ((H2.at [_,_,_]).1.typeIs) F.gen_no_len ?_))
  refine .bind (.of (wpAny_specialOf ((H2.at [_,_,_]).1.typeIs) F.gen_no_hint ?_))
  refine .pure ?_
  show WP w _ (PySem.rule "list.extend.makes-room" >>= fun J=>Builtin.List.listTouch (.ref s.heap.objs.size) >>= fun J=>
   again (.builtin "list.extend.loop" ⟨[.ref s.heap.objs.size,.ref a,.none],[]⟩)) _ _
  refine .bind (.rule (.bind ?_))
  obtain⟨n2,hS2⟩:=H2.at [_,_]
  refine .of ?_
  refine wpAny_bind (wpAny_updateSeq hS2 rfl ?_)
  refine wpAny_updateSeq (hz:=by seq_fits) (Heap.get?_update_self (Obj.mapSeq (·.push Value.none)) hS2 rfl) rfl ?_
  refine .pure ⟨rfl,?_⟩
  exists an3 os gs R G A.in1 ((r.mono (Nat.le_refl _) (Nat.le_refl _):aah A (d+1) (u+3+1)).in1.mono (Nat.le_refl _) (by exact q70)) _ #[] [] [] .nil (by simpa using hn) ((aa0.emp.mp (aa0.fzNew [_,_,_] (H2.updAt [_,_] (R':=aa2 s.heap.objs.size #[]) (aaB (Heap.SameBut.trans (Heap.SameBut.update ..) (Heap.SameBut.update ..)) s.toks rfl rfl rfl rfl ⟨_,(Heap.get?_update_self (Obj.mapSeq (·.pop)) (Heap.get?_update_self (Obj.mapSeq (·.push Value.none)) hS2 rfl) rfl)⟩)))).back [_,_,_,_,_,_]) fun s' acc' D' hd' H'=>?_
  exact h s' _ _ (aa0.fzAdd [_,_] ⟨false,s.heap.objs.size,acc'⟩ (aa0.cut 1 (H'.pick [4,0,1,3,2] 5))) (.list (.head _) ((by simpa using hd':RDs D' acc'.toList (os.map aoP)).mono fun f m=>.tail _ m))
 exact aa4 body.go (fun fin s' x=>by obtain⟨rfl,x⟩:=x; exact⟨adr _,x⟩) fun J J x=>x.elim
end
section
variable {prog:Program}{w:World}{A:Around}{E:Value→Shared→Prop}{s:Shared}
theorem afU {it t:Addr}{i:Nat}{items}{x:Value}{Q:Value→Shared→Prop}(hit:s.heap.IsTupleIter it t i)
  (ht:s.heap.IsTuple t items) (hx:items[i]? = some x)
  (hQ:∀ h',h'.IsTupleIter it t (i+1)→Heap.SameBut it s.heap h'→Q x { s with heap:=h' }) :
  wpAny (model prog w) A (Builtin.SmallTypes.nextOf (.ref it)) Q E s:=by
 obtain⟨o,ho,hc,hd⟩:=id hit
 obtain⟨ol,hol,_,nl,hdl⟩:=ht
 unfold Builtin.SmallTypes.nextOf
 refine wpAny_bind (wpAny_callSpecial?_slot (name:=Str.ofString "__next__") hit.typeIs PySem.F.slot_tuple_iterator_next
  (wpAny_call_entry PySem.F.slot_tuple_iterator_next hit.typeIs PySem.F.entry_tuple_iterator_next ?_ (PySem.F.args_tuple_iterator_next_1 _)))
 show wpAny _ _ (field (.ref it) 0 >>= _) _ _ s
 refine wpAny_bind (wpAny_field ho hd (x:=.ref t) rfl ?_)
 show wpAny _ _ (if (Value.ref t==Value.none)=true then _ else _) _ _ s
 show wpAny _ _ (field (.ref it) 1 >>= _) _ _ s
 refine wpAny_bind (wpAny_field ho hd (x:=.int i 0) rfl ?_)
 refine wpAny_bind (wpAny_seqItems hol hdl ?_)
 simp only[Int.toNat_natCast,hx]
 refine wpAny_bind (wpAny_setField ho hd (by simp) (wpAny_pure ⟨x,rfl,wpAny_pure (hQ _ ?_ (Heap.SameBut.update ..))⟩))
 exact⟨_,Heap.get?_update_self _ ho (Obj.isFreed_of_fields (Obj.data_mapFields hd _)),(Obj.cls_mapFields ..).trans hc,by
  rw[Obj.data_mapFields hd]; rfl⟩
theorem aey {z TI TO i1 i2 l1 l2:Addr}{k1 k2:Nat}{xs ys:Array Value}{x y a b:Value}{Q:Value→Shared→Prop}(D:ZipApart z TI TO i1 i2 l1 l2)
  (hz:IsZip s.heap z TI TO .none) (hTI:IsPair s.heap TI (.ref i1) (.ref i2)) (hTO:IsPair s.heap TO a b)
  (h1:s.heap.IsListIter i1 l1 k1) (h2:s.heap.IsTupleIter i2 l2 k2) (hl1:s.heap.IsList l1 xs) (hl2:s.heap.IsTuple l2 ys) (hx:xs[k1]? = some x) (hy:ys[k2]? = some y)
  (hQ:∀ h',IsZip h' z TI TO (rawInt s.heap.objs.size)→IsPair h' TO x y→h'.IsListIter i1 l1 (k1+1)→h'.IsTupleIter i2 l2 (k2+1)→IsPair h' s.heap.objs.size x y→h'.objs.size=s.heap.objs.size+1→
   (∀ c o,c≠z→c≠TO→c≠i1→c≠i2→s.heap.get? c=some o→h'.get? c=some o)→Q (.ref s.heap.objs.size) { s with heap:=h' }) :
  wpAny (model prog w) A (Builtin.«zip.__next__» ⟨[.ref z],[]⟩) (fun fin s'=>∃ v,fin=.done (.ret v)∧Q v s') E s:=by
 show wpAny _ _ (field (.ref z) 2 >>= _) _ _ _
 refine wpAny_bind (wpAny_field hz rfl (x:=.bool false) rfl ?_)
 refine wpAny_bind (wpAny_field hz rfl (x:=.ref TI) rfl ?_)
 refine wpAny_bind (wpAny_seqItems hTI rfl ?_)
 refine wpAny_bind ?_
 refine wpAny_bind (wpAny_field hz rfl (x:=.none) rfl (wpAny_pure ?_))
 refine wpAny_bind (wpAny_rule ?_)
 refine wpAny_bind (wpAny_field hz rfl (x:=.ref TO) rfl ?_)
 refine wpAny_bind (wpAny_setField_rec hz (by simp) fun h1' hz1 hs1'=>?_)
 refine wpAny_bind ?_
 simp only[List.zipIdx_cons,List.zipIdx_nil,List.forIn_cons,List.forIn_nil]
 refine wpAny_bind (wpAny_bind (wpAny_onRaise ?_))
 refine wpAny_bind (wpAny_nextOf_list_item (h1.extBut hs1'.extBut D.i1z) (hl1.extBut hs1'.extBut D.l1z) hx fun h2'' h1₂ hs2'=>wpAny_pure ?_)
 have hTO₂:IsPair h2'' TO a b:=hs2'.extBut _ _ D.TOi1 (hs1'.extBut _ _ D.TOz hTO)
 refine wpAny_bind (wpAny_seqItems hTO₂ rfl ?_)
 refine wpAny_bind (wpAny_updateSeq_pair hTO₂ fun h3' hTO₃ hs3=>?_)
 refine wpAny_bind (wpAny_letGo (wpAny_pure ?_))
 refine wpAny_bind (wpAny_bind (wpAny_onRaise ?_))
 refine wpAny_bind (afU (((h2.extBut hs1'.extBut D.i2z).extBut hs2'.extBut D.i12.symm).extBut hs3.extBut D.TOi2.symm)
  (((hl2.extBut hs1'.extBut D.l2z).extBut hs2'.extBut D.l2i1).extBut hs3.extBut D.l2TO) hy fun h4' h2₄ hs4=>wpAny_pure ?_)
 have hTO₄:IsPair h4' TO x b:=hs4.extBut _ _ D.TOi2 hTO₃
 refine wpAny_bind (wpAny_seqItems hTO₄ rfl ?_)
 refine wpAny_bind (wpAny_updateSeq_pair hTO₄ fun h5' hTO₅ hs5=>?_)
 replace hTO₅:IsPair h5' TO x y:=hTO₅
 refine wpAny_bind (wpAny_letGo (wpAny_pure (wpAny_pure ?_)))
 refine wpAny_bind (wpAny_seqItems hTO₅ rfl ?_)
 refine wpAny_bind (wpAny_newTuple ?_)
 have hsz:h5'.objs.size=s.heap.objs.size:=by simp only[hs5.1,hs4.1,hs3.1,hs2'.1,hs1'.1]
 have hz5:IsZip h5' z TI TO .ellipsis:=hs5.extBut _ _ D.TOz.symm (hs4.extBut _ _ D.i2z.symm (hs3.extBut _ _ D.TOz.symm (hs2'.extBut _ _ D.i1z.symm hz1)))
 have hk5':∀ c o,c≠z→c≠TO→c≠i1→c≠i2→s.heap.get? c=some o→h5'.get? c=some o:=fun c o c1 c2 c3 c4 e=>
  hs5.extBut _ _ c2 (hs4.extBut _ _ c4 (hs3.extBut _ _ c2 (hs2'.extBut _ _ c3 (hs1'.extBut _ _ c1 e))))
 have h1₅:h5'.IsListIter i1 l1 (k1+1):=((h1₂.extBut hs3.extBut D.TOi1.symm).extBut hs4.extBut D.i12).extBut hs5.extBut D.TOi1.symm
 have h2₅:h5'.IsTupleIter i2 l2 (k2+1):=h2₄.extBut hs5.extBut D.TOi2.symm
 have hzlt:z<h5'.objs.size:=Heap.lt_size hz5
 refine wpAny_bind ?_
 have hz6:IsZip (h5'.push { cls:=.type "tuple",data:=.seq #[x,y] }) z TI TO .ellipsis:=Heap.get?_push_of_some _ hz5
 refine wpAny_bind (wpAny_setField_rec hz6 (by simp) fun h7' hz7 hs7=>?_)
 replace hz7:IsZip h7' z TI TO (rawInt h5'.objs.size):=hz7
 refine wpAny_setField_rec hz7 (by simp) fun h8' hz8' hs8=>?_
 replace hz8':IsZip h8' z TI TO (rawInt h5'.objs.size):=hz8'
 have up:∀ c o,c≠z→h5'.get? c=some o→h8'.get? c=some o:=fun c o c1 e=>hs8.extBut _ _ c1 (hs7.extBut _ _ c1 (Heap.get?_push_of_some _ e))
 have hT8:IsPair h8' h5'.objs.size x y:=hs8.extBut _ _ (Nat.ne_of_gt hzlt) (hs7.extBut _ _ (Nat.ne_of_gt hzlt) (Heap.get?_push_size _ rfl))
 have hz8:h8'.objs.size=h5'.objs.size+1:=by simp only[hs8.1,hs7.1,Heap.size_push]
 rw[hsz] at hz8' hT8 hz8
 refine wpAny_pure ⟨_,rfl,?_⟩
 show Q (.ref h5'.objs.size) _
 rw[hsz]
 exact hQ h8' hz8' (up _ _ D.TOz hTO₅) (h1₅.at fun o e=>up _ o D.i1z e) (h2₅.at fun o e=>up _ o D.i2z e) hT8 hz8 fun c o c1 c2 c3 c4 e=>up c o c1 (hk5' c o c1 c2 c3 c4 e)
theorem afk {z TI TO i1 i2 l1:Addr}{k1:Nat}{xs:Array Value}{Q:Fin→Shared→Prop}(hh:A.handled=none) (d1:i1≠z) (d2:l1≠z)
  (hz:IsZip s.heap z TI TO .none) (hTI:IsPair s.heap TI (.ref i1) (.ref i2))
  (h1:s.heap.IsListIter i1 l1 k1) (hl1:s.heap.IsList l1 xs) (hx:xs[k1]? = none)
  (hE:∀ h' e,(∀ c o,c≠z→c≠i1→s.heap.get? c=some o→h'.get? c=some o)→(∃ o,h'.get? e=some o∧o.cls=.type "StopIteration")→E (.ref e) { s with heap:=h' }) :
  wpAny (model prog w) A (Builtin.«zip.__next__» ⟨[.ref z],[]⟩) Q E s:=by
 show wpAny _ _ (field (.ref z) 2 >>= _) _ _ _
 refine wpAny_bind (wpAny_field hz rfl (x:=.bool false) rfl ?_)
 refine wpAny_bind (wpAny_field hz rfl (x:=.ref TI) rfl ?_)
 refine wpAny_bind (wpAny_seqItems hTI rfl ?_)
 refine wpAny_bind ?_
 refine wpAny_bind (wpAny_field hz rfl (x:=.none) rfl (wpAny_pure ?_))
 refine wpAny_bind (wpAny_rule ?_)
 refine wpAny_bind (wpAny_field hz rfl (x:=.ref TO) rfl ?_)
 refine wpAny_bind (wpAny_setField_rec hz (by simp) fun h1' hz1 hs1'=>?_)
 replace hz1:IsZip h1' z TI TO .ellipsis:=hz1
 refine wpAny_bind ?_
 refine wpAny_bind (wpAny_bind (wpAny_onRaise ?_))
 refine wpAny_bind (wpAny_nextOf_list_end hh (h1.extBut hs1'.extBut d1) (hl1.extBut hs1'.extBut d2) hx fun h2'' e hs2' he=>?_)
 obtain⟨oe,hoe,hce⟩:=he
 have hz2':IsZip h2'' z TI TO .ellipsis:=hs2' _ _ d1.symm hz1
 have hez:e≠z:=fun x=>by subst x; rw[hz2'] at hoe; cases hoe; simp at hce
 refine wpAny_setField_rec hz2' (by simp) fun h3' J hs3=>hE h3' e (fun c o c1 c3 x=>hs3.extBut _ _ c1 (hs2' _ _ c3 (hs1'.extBut _ _ c1 x))) ⟨oe,hs3.extBut _ _ hez hoe,hce⟩
end
noncomputable abbrev zH1 (h:Heap) (l1:Addr):Heap:=h.push { cls:=.type "list_iterator",data:=.fields #[.ref l1,.int 0 0] }
noncomputable abbrev zH2 (h:Heap) (l1 l2:Addr):Heap:=(zH1 h l1).push { cls:=.type "tuple_iterator",data:=.fields #[.ref l2,.int 0 0] }
noncomputable abbrev zH3 (h:Heap) (l1 l2:Addr):Heap:=(zH2 h l1 l2).push { cls:=.type "tuple",data:=.seq #[.ref h.objs.size,.ref (zH1 h l1).objs.size] }
noncomputable abbrev zH4 (h:Heap) (l1 l2:Addr):Heap:=(zH3 h l1 l2).push { cls:=.type "tuple",data:=.seq #[.none,.none] }
noncomputable abbrev zH5 (h:Heap) (l1 l2:Addr):Heap:=(zH4 h l1 l2).push { cls:=.type "zip",data:=.fields #[.none,.bool false,.bool false,.ref (zH2 h l1 l2).objs.size,.ref (zH3 h l1 l2).objs.size] }
theorem aew (l1 l2:Addr) (xs ys:Array Value) :
  Meets (Builtin.«zip.__new__» ⟨[.type "zip",.ref l1,.ref l2],[]⟩) (fun J R s=>s.heap.IsList l1 xs∧s.heap.IsTuple l2 ys ∧
   R (.ok (.ret (.ref (zH4 s.heap l1 l2).objs.size))) { s with heap:=zH5 s.heap l1 l2 }):=
 .of_wp fun prog w A R s h=>by
  obtain⟨hp,g,d,tk,os⟩:=s; obtain⟨hl1,hl2,h⟩:=h
  have hsub:=sub_zip
  have hL1:Heap.IsList (Shared.heap ⟨hp,g,d,tk,os⟩) l1 xs:=hl1
  have hL2:Heap.IsTuple (Shared.heap ⟨hp.push { cls:=.type "list_iterator",data:=.fields #[.ref l1,.int 0 0] },g,d,tk,os⟩) l2 ys:=Heap.IsTuple.push hl2 _
  wp_walk using wpAny_pyIter_list hL1,wpAny_pyIter_tuple hL2
  exact⟨_,rfl,h⟩
structure ZI where
 z:Addr
 TI:Addr
 TO:Addr
 i1:Addr
 i2:Addr
 l1:Addr
 l2:Addr
noncomputable def akH (Z:ZI) (f0:Value) (k:Nat):Res where
 fp:=fun a=>a=Z.z∨a=Z.TI∨a=Z.TO∨a=Z.i1∨a=Z.i2
 gp:=aaD
 P:=fun s=>IsZip s.heap Z.z Z.TI Z.TO f0∧IsPair s.heap Z.TI (.ref Z.i1) (.ref Z.i2)∧(∃ a b,IsPair s.heap Z.TO a b)∧s.heap.IsListIter Z.i1 Z.l1 k∧s.heap.IsTupleIter Z.i2 Z.l2 k∧Z.TI≠Z.TO
 live:=fun s ⟨h1,h2,⟨_,_,h3⟩,⟨_,h4,_⟩,⟨_,h5,_⟩,_⟩=>⟨fun b e=>by
  rcases e with rfl | rfl | rfl | rfl | rfl
  ·rw[show s.heap.get? Z.z=some _ from h1]; rfl
  ·rw[show s.heap.get? Z.TI=some _ from h2]; rfl
  ·rw[show s.heap.get? Z.TO=some _ from h3]; rfl
  ·rw[h4]; rfl
  ·rw[h5]; rfl,fun J z=>z.elim⟩
 loc:=fun s s' ⟨h1,h2,⟨a,b,h3⟩,h4,h5,h6⟩ k J J=>⟨k _ _ (.inl rfl) h1,k _ _ (.inr (.inl rfl)) h2,⟨a,b,k _ _ (.inr (.inr (.inl rfl))) h3⟩,h4.at fun o e=>k _ o (.inr (.inr (.inr (.inl rfl)))) e,h5.at fun o e=>k _ o (.inr (.inr (.inr (.inr rfl)))) e,h6⟩
theorem aaK {h:Heap}{a b:Addr}{o o':Obj}(e:h.get? a=some o) (e':h.get? b=some o') (n:o.cls≠o'.cls):a≠b:=fun x=>by
 subst x; rw[e] at e'; cases e'; exact n rfl
section
variable {w:World}{A:Around}{s s0:Shared}{env:Env}{L:List Res}{R R₁ R₂:Res}
theorem as6 {Z:ZI}{f0:Value}{k:Nat}{xs ys:Array Value}(h:(akH Z f0 k).P s) (hl1:s.heap.IsList Z.l1 xs) (hl2:s.heap.IsTuple Z.l2 ys) (hne:Z.l2≠Z.TO):ZipApart Z.z Z.TI Z.TO Z.i1 Z.i2 Z.l1 Z.l2:=by
 obtain⟨h1,h2,⟨a,b,h3⟩,⟨o4,h4,c4,_⟩,⟨o5,h5,c5,_⟩,h6⟩:=h
 obtain⟨o6,e6,c6,_⟩:=hl1
 obtain⟨o7,e7,c7,_⟩:=hl2
 exact { TIz:=aaK h2 h1 (by simp),TOz:=aaK h3 h1 (by simp),i1z:=aaK h4 h1 (by rw[c4]; simp),i2z:=aaK h5 h1 (by rw[c5]; simp),TITO:=h6,TIi1:=aaK h2 h4 (by rw[c4]; simp),TIi2:=aaK h2 h5 (by rw[c5]; simp),TOi1:=aaK h3 h4 (by rw[c4]; simp),TOi2:=aaK h3 h5 (by rw[c5]; simp),i12:=aaK h4 h5 (by rw[c4,c5]; simp),l1z:=aaK e6 h1 (by rw[c6]; simp),l1TO:=aaK e6 h3 (by rw[c6]; simp),l1i1:=aaK e6 h4 (by rw[c6,c4]; simp),l1i2:=aaK e6 h5 (by rw[c6,c5]; simp),l2z:=aaK e7 h1 (by rw[c7]; simp),l2TO:=hne,l2i1:=aaK e7 h4 (by rw[c7,c4]; simp),l2i2:=aaK e7 h5 (by rw[c7,c5]; simp) }
theorem atA {l1 l2:Addr}{xs ys:Array Value}{Q:Value→Shared→Prop}(H:aa0 s (R::R₂::L)) (hl1:s.heap.IsList l1 xs) (hl2:s.heap.IsTuple l2 ys)
  (h:∀ s' Z,Z.l1=l1→Z.l2=l2→s.heap.get? Z.TO=none→aa0 s' (R::R₂::akH Z .none 0::L)→Q (.ref Z.z) s'):WP w A (call (.type "zip") [.ref l1,.ref l2]) Q s:=by
 refine .of (callType_new PySem.F.called_zip (by decide) (PySem.F.typeCall_zip_2 _ _) (PySem.F.newCall_zip_2 _ _) (fun obj=>PySem.F.args_object_init_3 obj _ _) PySem.F.entry_zip_new
  (aew l1 l2 xs ys) ⟨hl1,hl2,?_⟩)
 have z1:(zH1 s.heap l1).objs.size=s.heap.objs.size+1:=Heap.size_push ..
 have z2:(zH2 s.heap l1 l2).objs.size=s.heap.objs.size+2:=by rw[Heap.size_push,z1]
 have z3:(zH3 s.heap l1 l2).objs.size=s.heap.objs.size+3:=by rw[Heap.size_push,z2]
 have z4:(zH4 s.heap l1 l2).objs.size=s.heap.objs.size+4:=by rw[Heap.size_push,z3]
 have g5:(zH5 s.heap l1 l2).get? (zH4 s.heap l1 l2).objs.size=some _:=Heap.get?_push_size _ rfl
 have g4:(zH5 s.heap l1 l2).get? (zH3 s.heap l1 l2).objs.size=some _:=Heap.get?_push_of_some _ (Heap.get?_push_size _ rfl)
 have g3:(zH5 s.heap l1 l2).get? (zH2 s.heap l1 l2).objs.size=some _:=Heap.get?_push_of_some _ (Heap.get?_push_of_some _ (Heap.get?_push_size _ rfl))
 have g2:(zH5 s.heap l1 l2).get? (zH1 s.heap l1).objs.size=some _:=Heap.get?_push_of_some _ (Heap.get?_push_of_some _ (Heap.get?_push_of_some _ (Heap.get?_push_size _ rfl)))
 have g1:(zH5 s.heap l1 l2).get? s.heap.objs.size=some _:=Heap.get?_push_of_some _ (Heap.get?_push_of_some _ (Heap.get?_push_of_some _ (Heap.get?_push_of_some _ (Heap.get?_push_size _ rfl))))
 show _∧_
 rw[z2,z3,z4] at g5
 rw[z1,z2] at g3
 rw[z3] at g4
 rw[z1] at g2
 rw[z4]
 have fr:∀ n,s.heap.get? (s.heap.objs.size+n)=none:=fun n=>by
  cases e:s.heap.get? (s.heap.objs.size+n) with
  | none=>rfl
  | some o=>exact absurd (Heap.lt_size e) (Nat.not_lt.mpr (Nat.le_add_right _ _))
 refine⟨⟨_,g5,rfl⟩,h _ ⟨s.heap.objs.size+4,s.heap.objs.size+2,s.heap.objs.size+3,s.heap.objs.size,s.heap.objs.size+1,l1,l2⟩ rfl rfl (fr 3) (H.made (.of (fun c o x=>
  Heap.get?_push_of_some _ (Heap.get?_push_of_some _ (Heap.get?_push_of_some _ (Heap.get?_push_of_some _ (Heap.get?_push_of_some _ x))))) rfl rfl ⟨g5,g3,⟨_,_,g4⟩,⟨_,g1,rfl,rfl⟩,⟨_,g2,rfl,rfl⟩,by show s.heap.objs.size+2≠s.heap.objs.size+3; simp +arith⟩ (fun a e=>?_) fun J z=>z))⟩
 rcases e with rfl | rfl | rfl | rfl | rfl
 ·exact fr 4
 ·exact fr 2
 ·exact fr 3
 ·exact fr 0
 ·exact fr 1
theorem aoY {Z:ZI}{f0:Value}{k:Nat}{Q:Value→Shared→Prop}(h:(akH Z f0 k).P s) (hq:Q (.ref Z.z) s):WP w A (pyIter (.ref Z.z)) Q s:=.of (wpAny_pyIter_zip h.1 hq)
theorem apo {Z:ZI}{k:Nat}{xs ys:Array Value}{x y:Value}{Q:Option Value→Shared→Prop}(M:List Res) (H:aa0 s (M++akH Z .none k::L)) (hl1:s.heap.IsList Z.l1 xs) (hl2:s.heap.IsTuple Z.l2 ys) (hne:Z.l2≠Z.TO) (hx:xs[k]? = some x) (hy:ys[k]? = some y)
  (h:∀ s' (T:Addr),aa0 s' (M++akH Z (rawInt T) (k+1)::ac5 T #[x,y]::L)→Q (some (.ref T)) s'):WP w A (pyNext (.ref Z.z)) Q s:=by
 have D:=as6 (H.at M) hl1 hl2 hne
 obtain⟨hz,hTI,⟨a,b,hTO⟩,h1,h2,h6⟩:=H.at M
 have hT:s.TypeIs (.ref Z.z) "zip" := ⟨_,hz,rfl⟩
 refine .of ?_
 refine wpAny_bind (wpAny_attempt (wpAny_callSpecial?_slot (name:=Str.ofString "__next__") hT PySem.F.slot_zip_next
  (wpAny_call_entry PySem.F.slot_zip_next hT PySem.F.entry_zip_next
   (aey D hz hTI hTO h1 h2 hl1 hl2 hx hy fun h' a1 a2 a3 a4 a5 a6 a7=>wpAny_pure ?_) (PySem.F.args_zip_next_1 _))))
 have lt:∀ {c o},s.heap.get? c=some o→s.heap.objs.size≠c:=fun e=>Nat.ne_of_gt (Heap.lt_size e)
 have fr:s.heap.get? s.heap.objs.size=none:=by
  cases e:s.heap.get? s.heap.objs.size with
  | none=>rfl
  | some o=>exact absurd (Heap.lt_size e) (Nat.lt_irrefl _)
 have H2:=H.updAt M (R':=aae [akH Z (rawInt s.heap.objs.size) (k+1),ac5 s.heap.objs.size #[x,y]]) (s':={ s with heap:=h' }) (.of (fun c o hc e=>a7 c o (fun z=>hc (.inl z)) (fun z=>hc (.inr (.inr (.inl z)))) (fun z=>hc (.inr (.inr (.inr (.inl z))))) (fun z=>hc (.inr (.inr (.inr (.inr z))))) e) rfl rfl
  ⟨⟨a1,a7 _ _ D.TIz D.TITO D.TIi1 D.TIi2 hTI,⟨_,_,a2⟩,a3,a4,h6⟩,fun R' m=>?_,⟨_,a5,rfl,_,rfl⟩,fun J m=>(nomatch m),trivial⟩ (fun c ⟨R',m,e⟩=>?_) (fun J z=>z) fun g ⟨R',m,z⟩=>?_)
 ·have H3:=(aa0.sep (L:=[_,_]) (M:=M++L)).mp (H2.front M)
  exact h _ _ (H3.perm (by
   show (_::_::(M++L)).Perm _
   exact (List.perm_middle (l₁:=M) (l₂:=L)).symm.cons _ |>.trans ((List.perm_middle (l₁:=M)).symm)))
 ·rcases List.mem_singleton.mp m with rfl
  refine⟨fun c e e'=>?_,fun J z=>z.elim⟩
  have e2:c=s.heap.objs.size:=e'
  subst e2
  obtain⟨_,q1,_⟩:=h1
  obtain⟨_,q2,_⟩:=h2
  rcases e with e | e | e | e | e
  ·exact lt hz e
  ·exact lt hTI e
  ·exact lt hTO e
  ·exact lt q1 e
  ·exact lt q2 e
 ·simp only[List.mem_cons,List.not_mem_nil,or_false] at m
  rcases m with rfl | rfl
  ·exact .inl e
  ·exact .inr ((show c=s.heap.objs.size from e)▸fr)
 ·simp only[List.mem_cons,List.not_mem_nil,or_false] at m
  rcases m with rfl | rfl<;>exact z
theorem as8 {Z:ZI}{k:Nat}{xs:Array Value}{Q:Option Value→Shared→Prop}(M:List Res) (hh:A.handled=none) (H:aa0 s (M++akH Z .none k::L)) (hl1:s.heap.IsList Z.l1 xs) (hx:xs[k]? = none)
  (h:∀ s',aa0 s' (M++emp::L)→Q none s'):WP w A (pyNext (.ref Z.z)) Q s:=by
 obtain⟨hz,hTI,⟨a,b,hTO⟩,h1,h2,h6⟩:=H.at M
 have hT:s.TypeIs (.ref Z.z) "zip" := ⟨_,hz,rfl⟩
 refine .of ?_
 have d1:Z.i1≠Z.z:=by obtain⟨o,e,c,_⟩:=h1; exact aaK e hz (by rw[c]; simp)
 have d2:Z.l1≠Z.z:=by obtain⟨o,e,c,_⟩:=hl1; exact aaK e hz (by simp only[c]; simp)
 refine wpAny_bind (wpAny_attempt (wpAny_callSpecial?_slot (name:=Str.ofString "__next__") hT PySem.F.slot_zip_next
  (wpAny_call_entry PySem.F.slot_zip_next hT PySem.F.entry_zip_next (afk hh d1 d2 hz hTI h1 hl1 hx fun h' e hk he=>?_) (PySem.F.args_zip_next_1 _))))
 obtain⟨o,ho,hc⟩:=he
 refine wpAny_bind (wpAny_isInstance (T := "StopIteration") (b:=true) ⟨o,ho,hc⟩ isSubtype_stop ?_)
 exact wpAny_pure (h _ (H.updAt M (.of (fun c o hc e=>hk c o (fun z=>hc (.inl z)) (fun z=>hc (.inr (.inr (.inr (.inl z))))) e) rfl rfl trivial (fun b e=>e.elim) (fun J z=>z) fun J z=>z)))
theorem aqr {Z:ZI}{k:Nat}{T:Addr}{elts:List Expr}{x1}{pos:Pos}{Q:Unit→Shared→Prop}(M:List Res) (H:aa0 s (M++akH Z (rawInt T) k::L)) (h:∀ s',aa0 s' (M++akH Z .none k::L)→Q () s') :
  WP w A (letOwnedTupleGo (.Tuple elts x1 pos) (.ref Z.z) (.ref T)) Q s:=by
 obtain⟨hz,hTI,⟨a,b,hTO⟩,h1,h2,h6⟩:=H.at M
 have d1:Z.i1≠Z.z:=by obtain⟨o,e,c,_⟩:=h1; exact aaK e hz (by rw[c]; simp)
 have d2:Z.i2≠Z.z:=by obtain⟨o,e,c,_⟩:=h2; exact aaK e hz (by simp only[c]; simp)
 refine .of (wpAny_letOwnedTupleGo_zip hz fun h' hz' hs'=>h _ (H.updAt M (.of (fun c o hc e=>hs'.extBut _ _ (fun z=>hc (.inl z)) e) rfl rfl ⟨hz',hs'.extBut _ _ (aaK hTI hz (by simp)) hTI,⟨a,b,hs'.extBut _ _ (aaK hTO hz (by simp)) hTO⟩,h1.extBut hs'.extBut d1,h2.extBut hs'.extBut d2,h6⟩ (fun J e=>.inl e) (fun J z=>z) fun J z=>z)))
end
noncomputable def nsF:List Str:=["subst", "solutions", "solution", "new_subst", "var", "count"]
noncomputable def gsF:List Str:=["list", "solve_linear_diop", "dict", "zip"]
noncomputable def csF:List Str:=["total", "var_counts", "variables", "value"]
noncomputable def asF (L:Nat):List Addr:=[(L+2:Nat),(L+4:Nat),(L+3:Nat),(L+1:Nat)]
theorem ath (ct cd pm:Value):alJ (ac9 0 ct cd pm) nsF gsF=true:=by kernel_rfl
theorem ao6:csF.all (fun x=>(abm aar).names.lookup x==some .free&&!(x==("__debug__" : Str))&&!(x==("__classdict__" : Str)))=true:=by kernel_rfl
theorem apV (L:Nat):csF.map (fun x=>(aob L).lookup x)=(asF L).map some:=by kernel_rfl
theorem agS (L:Nat) (ct cd pm:Value) (L' a:Addr):aa8 (callEnv (ac9 L ct cd pm) L' a) nsF gsF:=by
 have h:=ath ct cd pm
 obtain⟨h1,h2,h3,h4,h5,h6,h7,h8,h9⟩:=anz h
 exact⟨h1,h3,fun i x hx=>h4 x (List.mem_of_getElem? hx),fun i x hx=>h5 x (List.mem_of_getElem? hx),fun i x hx=>h6 x (List.mem_of_getElem? hx),h7,h8⟩
theorem ah8 (L:Nat) (ct cd pm:Value) (L' a:Addr):aap (callEnv (ac9 L ct cd pm) L' a) .free csF (asF L):=by
 have h:=ao6
 simp only[Bool.and_eq_true,List.all_eq_true,beq_iff_eq,Bool.not_eq_true'] at h
 refine⟨fun i x hx=>(h x (List.mem_of_getElem? hx)).1.1,fun i x c hx hc=>?_,fun i x hx=>⟨(h x (List.mem_of_getElem? hx)).1.2,(h x (List.mem_of_getElem? hx)).2⟩⟩
 have e:=congrArg (fun l:List (Option Addr)=>l[i]?) (apV L)
 simp only[List.getElem?_map,hx,hc,Option.map_some,Option.some.injEq] at e
 exact e
section
variable {w:World}{A:Around}{s s0:Shared}{L:List Res}
theorem ald {f Lf c dA:Addr}{ct:Value}{Q:Value→Shared→Prop}{d u:Nat}(r:aah A (d+1) (u+3)) (b:Bs w s.heap) (hf:(akF f (ac9 Lf ct (.ref c) acE)).P s) (hc:(aiP c amz).P s)
  (h:∀ env a g s',aa8 env nsF gsF→aap env .free csF (asF Lf)→env.scope.isCoroutine=false→acr (aae [aak a g false (.fresh (.func (aaa aar) env)),aa1 env.locals (aal nsF [some (.ref dA),none,none,none,none,none])]) s s'→Q (.ref a) s') :
  WP w A (call (.ref f) [.ref dA]) Q s:=by
 have h0:=ath ct (.ref c) acE
 obtain⟨h1,h2,h3,h4,h5,h6,h7,h8,h9⟩:=anz h0
 have hbind:BindsTo s (ac9 Lf ct (.ref c) acE) ⟨[.ref dA],[]⟩ [("subst",.ref dA)]:=BindsTo.of_eq (by kernel_rfl)
 refine .of (wpAny_call (codeAny_call_generator (fd:=ac9 Lf ct (.ref c) acE) (body:=aaa aar) r.lt hf rfl h2 (by kernel_rfl) rfl (anE hc) (hbind _ _ _ _ (wpAny_newFunctionEnv (fun x hx e=>by
   have:=h9 x hx
   rw[e] at this; revert this; decide) (fun x hx=>h4 x.1 (by rcases List.mem_singleton.mp hx with rfl; exact .head _)) (fun h0' hns hsb=>⟨b.nolimit.fresh _ hsb,?_⟩) h1))))
 have hk:∀ b o,s.heap.get? b=some o→h0'.get? b=some o:=fun b o e=>hsb.extBut b o (Nat.ne_of_lt (Heap.lt_size e)) (Heap.get?_push_of_some _ e)
 have hL:s.heap.objs.size<h0'.objs.size:=by obtain⟨o,_,_,ho,_⟩:=hns; exact Heap.lt_size ho
 refine h (callEnv (ac9 Lf ct (.ref c) acE) s.heap.objs.size f) h0'.objs.size s.gens.size _ (agS ..) (ah8 ..) h2 ⟨⟨fun c o J e=>Heap.get?_push_of_some _ (hk c o e),fun g hg J=>?_,rfl⟩,fun g x e hc hn=>?_,⟨⟨⟨_,_,_,Heap.get?_push_size _ rfl,rfl,rfl,.inl rfl⟩,Array.getElem?_push_size ..⟩,fun R m=>?_,?_,fun J m=>(nomatch m),trivial⟩,fun c ⟨R,m,x⟩=>.inr ?_,fun g ⟨R,m,x⟩=>.inr ?_⟩
 ·exact (Array.getElem?_push_lt hg).trans (Array.getElem?_eq_getElem hg).symm
 ·rcases hc with hc | hc
  ·have hlt:=(Array.getElem?_eq_some_iff.mp e).1
   simp only[Array.size_push] at hlt
   exact absurd ⟨_,.head _,show g=s.gens.size by exact q9 ‹_› ‹_›⟩ hn
  ·exact hc.elim
 ·rcases List.mem_singleton.mp m with rfl
  refine⟨fun c e x=>?_,fun g e z=>z⟩
  cases e
  have x':h0'.objs.size=s.heap.objs.size:=x
  rw[x'] at hL
  exact absurd hL (Nat.lt_irrefl _)
 ·refine abh (hns.push _) fun y=>?_
  by_cases hy:y = "subst"
  ·subst hy; rfl
  ·have e1:(y==("subst" : Str))=false:=by simpa using hy
   show List.lookup y [(("subst" : Str),Value.ref dA)] = _
   simp only[List.lookup_cons,e1]
   have e2:∀ ns:List Str,aal ns (List.replicate ns.length none) y=none:=by
    intro ns
    induction ns with
    | nil=>rfl
    | cons n ns ih=>show (if _ then _ else aal ns (List.replicate ns.length none) y)=none; rw[ih]; split<;>rfl
   show none=(if _ then _ else aal ["solutions", "solution", "new_subst", "var", "count"] _ y)
   rw[if_neg (by simpa using hy)]
   exact (e2 ["solutions", "solution", "new_subst", "var", "count"]).symm
 ·rcases List.mem_cons.mp m with rfl | m
  ·have x':c=h0'.objs.size:=x
   cases hq:s.heap.get? c with
   | none=>rfl
   | some o=>
    have hlt:=Heap.lt_size hq
    rw[x'] at hlt
    exact absurd (Nat.lt_trans hlt hL) (Nat.lt_irrefl _)
  ·rcases List.mem_singleton.mp m with rfl
   exact aa9 c x
 ·rcases List.mem_cons.mp m with rfl | m
  ·exact Nat.le_of_eq (Eq.symm x)
  ·rcases List.mem_singleton.mp m with rfl
   exact x.elim
end
end
structure aco (l:List (Int × Int)):Prop where
 nd:(l.map Prod.fst).Nodup
 ks:∀ p∈l,0≤p.1∧p.1<4
 pos:∀ p∈l,0<p.2
theorem aco.nil:aco []:=⟨List.nodup_nil,fun J m=>(nomatch m),fun J m=>(nomatch m)⟩
theorem ajL:∀ (l K:List Int),l.Nodup→(∀ x∈l,x∈K)→l.length≤K.length:=by
 intro xX
 induction xX with
 | nil=>exact @fun J J J=>Nat.zero_le _
 | cons x l ih=>
  refine @fun K nd h=>?_
  rw[List.nodup_cons] at nd
  have h1:=ih (K.erase x) nd.2 fun y m=>(List.mem_erase_of_ne (fun e=>nd.1 (by rw[← e]; exact m))).mpr (h y (.tail _ m))
  rw[List.length_erase_of_mem (h x (.head _))] at h1
  have h2:0<K.length:=List.length_pos_of_mem (h x (.head _))
  simp only[List.length_cons]
  lia
theorem aco.len {l:List (Int × Int)}(h:aco l):l.length≤4:=by
 have h1:=ajL (l.map Prod.fst) [(0:Int),1,2,3] h.nd fun k m=>by
  obtain⟨p,mp,rfl⟩:=List.mem_map.mp m
  have:=h.ks p mp
  simp only[List.mem_cons,List.not_mem_nil,or_false]
  exact q2 ‹_›
 simpa using h1
theorem afn (l:List (Int × Int)) (k c:Int):(agi l k c).map Prod.fst=l.map Prod.fst:=by
 induction l with
 | nil=>rfl
 | cons p r ih=>
  show (if p.1=k then (p.1,c)::r else p::agi r k c).map Prod.fst=_
  split<;>simp[ih]
theorem afr {l:List (Int × Int)}{k c:Int}{p:Int × Int}(h:p∈agi l k c):p∈l∨(p.2=c∧p.1∈l.map Prod.fst):=by
 induction l with
 | nil=>exact nomatch h
 | cons q r ih=>
  have h':p∈(if q.1=k then (q.1,c)::r else q::agi r k c):=h
  split at h'
  ·rcases List.mem_cons.mp h' with rfl | m
   ·exact .inr ⟨rfl,by simp⟩
   ·exact .inl (.tail _ m)
  ·rcases List.mem_cons.mp h' with rfl | m
   ·exact .inl (.head _)
   ·rcases ih m with m | ⟨a,b⟩
    ·exact .inl (.tail _ m)
    ·exact .inr ⟨a,by rw[List.map_cons]; exact .tail _ b⟩
theorem aco.upd {l:List (Int × Int)}{k c:Int}(h:aco l) (hk:0≤k∧k<4):aco (upd l k c):=by
 have kk:∀ p∈agi l k c,0≤p.1∧p.1<4:=fun p m=>by
  rcases afr m with m | ⟨_,m⟩
  ·exact h.ks p m
  ·obtain⟨q,mq,e⟩:=List.mem_map.mp m
   rw[← e]; exact h.ks q mq
 unfold Mine.upd
 split
 ·split
  ·refine⟨?_,fun p m=>kk p (List.mem_filter.mp m).1,fun p m=>by simpa using (List.mem_filter.mp m).2⟩
   exact ((List.filter_sublist (l:=agi l k c)).map Prod.fst).nodup (by rw[afn]; exact h.nd)
  ·refine⟨by rw[afn]; exact h.nd,kk,fun p m=>?_⟩
   rcases afr m with m | ⟨e,_⟩
   ·exact h.pos p m
   ·rw[e]; lia
 ·rename_i hn
  split
  ·refine⟨?_,fun p m=>?_,fun p m=>?_⟩
   ·rw[List.map_append]
    refine List.nodup_append.mpr ⟨h.nd,by simp,fun a ha b hb=>?_⟩
    simp at hb
    subst hb
    intro e
    subst e
    obtain⟨q,mq,e⟩:=List.mem_map.mp ha
    exact hn (List.any_eq_true.mpr ⟨q,mq,by simpa using e⟩)
   ·rcases List.mem_append.mp m with m | m
    ·exact h.ks p m
    ·rw[List.mem_singleton.mp m]; exact hk
   ·rcases List.mem_append.mp m with m | m
    ·exact h.pos p m
    ·rw[List.mem_singleton.mp m]; assumption
  ·exact h
theorem afC {l:List (Int × Int)}{k:Int}(h:∀ p∈l,p.1≠k):cnt l k=0:=by
 induction l with
 | nil=>rfl
 | cons p r ih=>
  show (if p.1=k then p.2 else cnt r k)=0
  rw[if_neg (h p (.head _))]
  exact ih fun q m=>h q (.tail _ m)
theorem ahw (l:List (Int × Int)) (k c k':Int) (hk:k∈l.map Prod.fst):cnt (agi l k c) k'=if k'=k then c else cnt l k':=by
 induction l with
 | nil=>exact nomatch hk
 | cons p r ih=>
  show cnt (if p.1=k then (p.1,c)::r else p::agi r k c) k'=_
  by_cases e:p.1=k
  ·rw[if_pos e]
   show (if p.1=k' then c else cnt r k')=if k'=k then c else (if p.1=k' then p.2 else cnt r k')
   by_cases e2:k'=k
   ·rw[if_pos e2,if_pos (by lia)]
   ·rw[if_neg e2,if_neg (by lia),if_neg (by lia)]
  ·rw[if_neg e]
   show (if p.1=k' then p.2 else cnt (agi r k c) k')=if k'=k then c else (if p.1=k' then p.2 else cnt r k')
   have hk2:k∈r.map Prod.fst:=by
    rcases List.mem_cons.mp hk with h | h
    ·exact absurd h.symm e
    ·exact h
   rw[ih hk2]
   by_cases e2:k'=k
   ·subst e2; rw[if_neg e]
    simp
   ·by_cases e3:p.1=k'
    ·rw[if_pos e3,if_neg e2,if_pos e3]
    ·rw[if_neg e3,if_neg e3]
theorem aiw {l:List (Int × Int)}{k:Int}(nd:(l.map Prod.fst).Nodup) (hp:∀ p∈l,0≤p.2):cnt (l.filter fun p=>decide (0<p.2)) k=cnt l k:=by
 induction l with
 | nil=>rfl
 | cons p r ih=>
  rw[List.map_cons,List.nodup_cons] at nd
  by_cases h:0<p.2
  ·rw[List.filter_cons_of_pos (by simpa using h)]
   show (if p.1=k then p.2 else _)=(if p.1=k then p.2 else _)
   rw[ih nd.2 fun q m=>hp q (.tail _ m)]
  ·rw[List.filter_cons_of_neg (by simpa using h),ih nd.2 fun q m=>hp q (.tail _ m)]
   show _=(if p.1=k then p.2 else _)
   by_cases e:p.1=k
   ·rw[if_pos e,afC fun q m e2=>nd.1 (by rw[e,← e2]; exact List.mem_map_of_mem m)]
    have:=hp p (.head _)
    lia
   ·rw[if_neg e]
theorem aow (l:List (Int × Int)) (k c k':Int) (h:∀ p∈l,p.1≠k):cnt (l++[(k,c)]) k'=if k'=k then c else cnt l k':=by
 induction l with
 | nil=>
  show (if k=k' then c else 0)=if k'=k then c else 0
  by_cases e:k'=k
  ·rw[if_pos e,if_pos e.symm]
  ·rw[if_neg e,if_neg (Ne.symm e)]
 | cons p r ih=>
  show (if p.1=k' then p.2 else cnt (r++[(k,c)]) k')=if k'=k then c else (if p.1=k' then p.2 else cnt r k')
  rw[ih fun q m=>h q (.tail _ m)]
  have:=h p (.head _)
  by_cases e2:k'=k
  ·rw[if_pos e2,if_pos e2,if_neg (by lia)]
  ·rw[if_neg e2,if_neg e2]
theorem aok {l:List (Int × Int)}{k c:Int}(h:aco l) (hc:0≤c) (k':Int):cnt (upd l k c) k'=if k'=k then c else cnt l k':=by
 unfold upd
 split
 ·rename_i hn
  obtain⟨q,mq,e⟩:=List.any_eq_true.mp hn
  have hk:k∈l.map Prod.fst:=by
   have e':q.1=k:=by simpa using e
   rw[← e']; exact List.mem_map_of_mem mq
  split
  ·rw[aiw (by rw[afn]; exact h.nd) fun p m=>by
    rcases afr m with m | ⟨e,_⟩
    ·exact Int.le_of_lt (h.pos p m)
    ·rw[e]; exact hc]
   exact ahw l k c k' hk
  ·exact ahw l k c k' hk
 ·rename_i hn
  have hk:∀ p∈l,p.1≠k:=fun p m e=>hn (List.any_eq_true.mpr ⟨p,m,by simpa using e⟩)
  split
  ·exact aow l k c k' hk
  ·have:c=0:=by lia
   subst this
   by_cases e:k'=k
   ·rw[if_pos e,e,afC hk]
   ·rw[if_neg e]
section
open Builtin Builtin.ObjectAttr
noncomputable def agT (p:Prop):Res where
 fp:=fun J=>False
 gp:=aaD
 P:=fun J=>p
 live:=fun s h=>⟨fun b e=>e.elim,fun J z=>z.elim⟩
 loc:=fun s s' h J J J=>h
noncomputable def acs (ms:List Ms):Res:=aae (ms.map msR)
structure Cx where
 lv:Addr
 vs:List VI
 st:Option Addr
 Fs:List Fac
 xs:List Addr
noncomputable def Cx.FsR (C:Cx):Res:=aae (C.Fs.map fun F=>F.R C.lv C.vs)
noncomputable def Cx.Fx (C:Cx):Res:=aae [aaQ C.lv C.vs,aat C.st,C.FsR]
structure Cx.Ok (C:Cx):Prop where
 lx:C.xs.length=C.vs.length
 nd:(C.vs.map VI.name).Nodup
 cs:∀ v∈C.vs,v.count∈[1,2,3]
 l23:C.vs.length=2∨C.vs.length=3
 fc:∀ F∈C.Fs,C.st=some F.c
 fk:∀ F∈C.Fs,0≤F.k∧F.k<4
 fn:∀ F∈C.Fs,∃ n:Nat,F.n=n∧n∈List.range 5
noncomputable def adF (xs:List Addr) (ms:List Ms):Prop:=ms.map (·.x)=xs∧∀ m∈ms,aco m.abs
noncomputable def Cx.Sh (C:Cx) (ms:List Ms):Res:=aae [acs ms,agT (adF C.xs ms),C.Fx]
noncomputable def Cx.kvs (C:Cx):List (Option Str × Value):=(C.vs.map VI.name).zip (C.xs.map .ref)
noncomputable def aep (k:Int) (o:List Int) (j:Nat) (ms ms':List Ms):Prop:=ms'.length=ms.length∧∀ (i:Nat) m,ms[i]? = some m→∃ m':Ms,ms'[i]? = some m'∧m'.x=m.x∧m'.abs=if i<j then upd m.abs k (o.getD i 0) else m.abs
theorem aep.zero (k:Int) (o:List Int) (ms:List Ms):aep k o 0 ms ms:=⟨rfl,fun i m h=>⟨m,h,rfl,by rw[if_neg (Nat.not_lt_zero _)]⟩⟩
theorem aep.ok {k:Int}{o:List Int}{j:Nat}{ms ms':List Ms}{xs:List Addr}(h:aep k o j ms ms') (hk:0≤k∧k<4) (ok:adF xs ms):adF xs ms':=by
 constructor
 ·rw[← ok.1]
  apply List.ext_getElem
  ·simp[h.1]
  ·intro i h1 h2
   simp only[List.length_map] at h1 h2
   obtain⟨m',e1,e2,_⟩:=h.2 i _ (List.getElem?_eq_getElem h2)
   rw[List.getElem?_eq_getElem h1] at e1
   simp only[List.getElem_map]
   simp only[Option.some.inj e1,e2]
 ·intro m' hm
  obtain⟨i,h1,e⟩:=List.mem_iff_getElem.mp hm
  have h2:i<ms.length:=by rw[← h.1]; exact h1
  obtain⟨m2,e1,e2,e3⟩:=h.2 i _ (List.getElem?_eq_getElem h2)
  rw[List.getElem?_eq_getElem h1,e] at e1
  cases e1
  rw[e3]
  have n:=ok.2 _ (List.getElem_mem h2)
  split
  ·exact n.upd hk
  ·exact n
theorem adO {ns:List (Option Str)}{xs:List Value}:∀ {j:Nat}{n:Option Str}{x:Value},ns.Nodup→ns[j]? = some n→xs[j]? = some x→valueAt (ns.zip xs) n=some x:=by
 induction ns generalizing xs with
 | nil=>intro j n x _ h; simp at h
 | cons n0 ns ih=>
  intro j n x nd h1 h2
  cases xs with
  | nil=>simp at h2
  | cons x0 xs=>
   rw[List.nodup_cons] at nd
   cases j with
   | zero=>
    simp at h1 h2
    subst h1 h2
    simp[valueAt]
   | succ j=>
    simp at h1 h2
    have hne:n0≠n:=fun e=>nd.1 (by rw[e]; exact List.mem_of_getElem? h1)
    have:=ih nd.2 h1 h2
    unfold valueAt at this ⊢
    rw[List.zip_cons_cons,List.find?_cons_of_neg (by simpa using hne)]
    exact this
section
variable {s:Shared}{L:List Res}{α:Type}{f:α→Res}{R₁ R₂:Res}
theorem aa0.mapAt {l:List α}{i:Nat}{x:α}(h:l[i]? = some x) (H:aa0 s (R₁::R₂::aae (l.map f)::L)):aa0 s (R₁::R₂::((l.take i).map f++f x::((l.drop (i+1)).map f++L))):=by
 have hlt:=(List.getElem?_eq_some_iff.mp h).1
 have he:l[i] = x:=by rw[List.getElem?_eq_getElem hlt] at h; exact Option.some.inj h
 have h1:aa0 s (l.map f++(R₁::R₂::L)):=aa0.sep.mp (aa0.front [_,_] H)
 have e:l.map f=(l.take i).map f++f x::(l.drop (i+1)).map f:=by
  conv=>lhs; rw[← List.take_append_drop i l,List.drop_eq_getElem_cons hlt,he]
  simp
 have h2:aa0 s (R₁::R₂::(l.map f++L)):=h1.perm (by
  exact List.perm_middle.trans (List.perm_middle.cons _))
 rw[e,List.append_assoc] at h2
 exact h2
theorem aa0.mapBack {l:List α}{i:Nat}{x:α}(hlt:i<l.length) (H:aa0 s (R₁::R₂::((l.take i).map f++f x::((l.drop (i+1)).map f++L)))):aa0 s (R₁::R₂::aae ((l.set i x).map f)::L):=by
 have e:(l.set i x).map f=(l.take i).map f++f x::(l.drop (i+1)).map f:=by
  rw[List.set_eq_take_append_cons_drop,if_pos hlt]; simp
 have h2:aa0 s (R₁::R₂::((l.set i x).map f++L)):=by
  rw[e,List.append_assoc]; exact H
 have h1:aa0 s ((l.set i x).map f++(R₁::R₂::L)):=h2.perm ((List.perm_middle.trans (List.perm_middle.cons _)).symm)
 exact aa0.back [_,_] (aa0.sep.mpr h1)
end
noncomputable def FS:Stmt:=at' (aaa aar) 1
noncomputable def ZS:Stmt:=at' (adU FS) 1
theorem aof {vs:List Value}{ns:List Int}(h:IntsAre vs ns):∀ {i:Nat}{n:Int},ns[i]? = some n→∃ t,vs[i]? = some (.int n t):=by
 induction h with
 | nil=>exact fun e=>nomatch e
 | cons n t _ ih=>
  intro i m e
  cases i with
  | zero=>cases e; exact⟨t,rfl⟩
  | succ i=>exact ih e
section
variable {w:World}{A:Around}{s s0:Shared}{env:Env}{L:List Res}{fp:Addr→Prop}{gp:Nat→Prop}
inductive asL (o:List Int) (k:Int) (ms:List Ms) (env:Env) (v0 v1:Option Value) (ts d':Addr) (w:World) (fp:Addr→Prop) (gp:Nat→Prop) (s0:Shared) (Z:ZI) (C:Cx) (Lf:Nat) (tk:Tok) (D:List Fz) (L:List Res) (n:Nat) (s':Shared):Prop
 | mk (j ms' v4 v5):n=o.length - j→j≤o.length→aep k o j ms ms'→aa0 s' (aa1 env.locals (aal nsF [v0,v1,some (.ref ts),some (.ref d'),v4,v5])::aa5 w fp gp s0::akH Z .none j::acs ms'::ab7 w d' C.kvs::aaQ C.lv C.vs::aai (Lf+1:Nat) (some (.int k tk))::aai (Lf+3:Nat) (some (.ref C.lv))::fzR D::L)→asL o k ms env v0 v1 ts d' w fp gp s0 Z C Lf tk D L n s'
theorem anG {Lf:Nat}{C:Cx}{D:List Fz}{ms:List Ms}{k:Int}{tk:Tok}{d' ts:Addr}{vals:List Value}{o:List Int}{v0 v1 v4 v5:Option Value}{Q:Flow→Shared→Prop}(r:aah A 2 10) (F:aa8 env nsF gsF) (Cf:aap env .free csF (asF Lf))
  (ok:C.Ok) (hk:0≤k∧k<4) (hms:adF C.xs ms) (hD:⟨true,ts,vals.toArray⟩∈D) (hi:IntsAre vals o) (hlen:o.length=C.vs.length)
  (H:aa0 s (aa1 env.locals (aal nsF [v0,v1,some (.ref ts),some (.ref d'),v4,v5])::aa5 w fp gp s0::acs ms::ab7 w d' C.kvs::aaQ C.lv C.vs::aai (Lf+1:Nat) (some (.int k tk))::aai (Lf+3:Nat) (some (.ref C.lv))::fzR D::L))
  (h:∀ s' ms' v4 v5,aa0 s' (aa1 env.locals (aal nsF [v0,v1,some (.ref ts),some (.ref d'),v4,v5])::aa5 w fp gp s0::acs ms'::ab7 w d' C.kvs::aaQ C.lv C.vs::aai (Lf+1:Nat) (some (.int k tk))::aai (Lf+3:Nat) (some (.ref C.lv))::fzR D::L)→aep k o o.length ms ms'→Q .next s') :
  WP w A (exec ZS env) Q s:=by
 have htup:∀ {s:Shared},(fzR D).P s→s.heap.IsTuple ts vals.toArray:=fun h=>aas h _ hD
 exists aem ?_
 refine abo 3 8 F H ?_
 exists 0,aa3 ?_,dLF [_,_,_,_,_,_] 2 F Cf H ?_,spL 2 F H rfl ?_,aa6 ?_,atA H (aaC (H.at [_,_,_,_])).isList (htup (H.at [_,_,_,_,_,_,_])) fun s₁ Z e1 e2 e3 H'=>?_
 have hne:Z.l2≠Z.TO:=fun e=>by
  obtain⟨q,hq,_⟩:=htup (H.at [_,_,_,_,_,_,_])
  rw[e2] at e
  rw[← e] at e3
  rw[hq] at e3
  cases e3
 replace H:=H'
 exists aoY (H.at [_,_]) ?_,abB (I:=asL o k ms env v0 v1 ts d' w fp gp s0 Z C Lf tk D L) (fun n s' hI=>?_) _ ⟨0,ms,v4,v5,rfl,Nat.zero_le _,aep.zero _ _ _,H⟩
 obtain⟨j,ms',v4,v5,en,hj,hst,H⟩:=hI
 have hl1:s'.heap.IsList Z.l1 (acl C.vs):=by rw[e1]; exact (aaC (H.at [_,_,_,_,_])).isList
 have hl2:s'.heap.IsTuple Z.l2 vals.toArray:=by rw[e2]; exact htup (H.at [_,_,_,_,_,_,_,_])
 cases hr:C.vs[j]? with
 | none=>
  exists as8 [_,_] r.handled H hl1 (acq hr) fun s₂ H2=>?_
  have ej:j=o.length:=by
   have:=List.getElem?_eq_none_iff.mp hr
   omega
  subst ej
  exact h s₂ ms' v4 v5 (aa0.cut 1 (H2.pick [2,0,1] 3)) hst
 | some v=>
  have hlt:=(List.getElem?_eq_some_iff.mp hr).1
  have ho:o[j]? = some o[j]:=List.getElem?_eq_getElem (by exact q29 ‹_› ‹_›)
  obtain⟨t,ht⟩:=aof hi ho
  exists apo [_,_] H hl1 hl2 hne (acY hr) (by simpa using ht) fun s₂ T H=>?_,aqr [_,_] H fun s3 H=>?_,aqT [_,_,_] r.handled H fun s4' H=>?_,0,aaV ?_,aS 4 F H rfl fun s4' H=>?_,0,aaV ?_,aS 5 F H rfl fun s4' H=>?_,0,aiL ?_
  replace H:=H.pick [3,0,1,2] 4
  dsimp only[ac7,ac4,aeA,abV,List.cons_append,List.nil_append,List.append] at H
  replace H:=H.cut 1
  dsimp only[ac7,ac4,aeA,abV,List.cons_append,List.nil_append,List.append] at H
  exists aa7 ?_
  refine adm ?_
  exists dL 5 F H rfl ?_
  refine aaw ?_
  exists dL 3 F H rfl ?_
  refine acF ?_
  exists dL 4 F H rfl ?_
  refine aeZ r H.bs (aca (H.at [_,_,_,_,_]) (List.mem_of_getElem? hr)) fun s5 kp=>?_
  replace H:=H.keep kp
  have hx:∃ x,C.xs[j]? = some x:=⟨C.xs[j]'(by rw[ok.lx]; exact hlt),List.getElem?_eq_getElem _⟩
  obtain⟨x,hx⟩:=hx
  have hmsj:∃ m,ms'[j]? = some m∧m.x=x:=by
   have e:=(hst.ok hk hms).1
   have e4:=congrArg (fun l:List Addr=>l[j]?) e
   simp only[List.getElem?_map,hx] at e4
   cases hm:ms'[j]? with
   | none=>rw[hm] at e4; cases e4
   | some m=>rw[hm] at e4; exact⟨m,rfl,by simpa using e4⟩
  obtain⟨m,hm,hmx⟩:=hmsj
  exists ao9 (k:=v.name) (v:=.ref x) (H.at [_,_,_,_]) (ad8 _ _) (adO (j:=j) ok.nd (by simp[hr]) (by simp[hx])) ?_ (by with_unfolding_all rfl)
  replace H:=H.keep (aab (s5.toks+1))
  exists dLF [_,_,_,_,_,_] 3 F Cf H ?_
  replace H:=H.pick [0,1,3,2] 4
  dsimp only[ac7,ac4,aeA,abV,List.cons_append,List.nil_append,List.append] at H
  subst hmx
  have hnice:=(hst.ok hk hms).2 m (List.mem_of_getElem? hm)
  exists anH ((ms'.take j).map msR) (r.mono (by exact lb rfl) (by exact lb rfl)) (aa0.mapAt hm H) (by have:=hnice.len; unfold Ms.abs at this; simp at this; exact q50 ‹_›) fun s6 m2 H f1 f2=>?_,aaL ?_
  refine⟨o.length - (j+1),by omega,j+1,ms'.set j m2,some (.ref v.a),some (.int o[j] t),rfl,by omega,?_,?_⟩
  ·refine⟨by rw[List.length_set]; exact hst.1,fun i m0 hi0=>?_⟩
   obtain⟨m',g1,g2,g3⟩:=hst.2 i m0 hi0
   by_cases e:j=i
   ·subst e
    rw[hm] at g1
    cases g1
    refine⟨m2,by rw[List.getElem?_set_self (List.getElem?_eq_some_iff.mp hm).1],f1.trans g2,?_⟩
    rw[if_pos (Nat.lt_succ_self _),f2,g3,if_neg (Nat.lt_irrefl _)]
    congr 1
    rw[List.getD_eq_getElem?_getD,ho]; rfl
   ·refine⟨m',by rw[List.getElem?_set_ne e]; exact g1,g2,?_⟩
    rw[g3]
    by_cases e2:i<j
    ·rw[if_pos e2,if_pos (by exact q60 ‹_›)]
    ·rw[if_neg e2,if_neg (by exact q47 ‹_› ‹_›)]
  ·exact (aa0.mapBack (l:=ms') (by exact (List.getElem?_eq_some_iff.mp hm).1) H).pick [0,1,3,2] 4
end
theorem acd.mono {w:World}{A:Around}{gs:GenState}{s:Shared}{QR QR':Shared→Prop}{QY QY':Value→GenState→Shared→Prop}(h:acd w A gs QR QY s) (h1:∀ s,QR s→QR' s) (h2:∀ v gs s,QY v gs s→QY' v gs s):acd w A gs QR' QY' s:=by
 cases gs with
 | fresh c=>exact aqK h h1 h2
 | suspended k l c p fs b=>exact aqK h h1 h2
 | running=>exact h
 | finished=>exact h
theorem aaq.mono {α σ:Type}{w:World}{d u d' u':Nat}{S:abi α σ}(hd:d≤d') (hu:u≤u'):∀ {os:List α}{gs:GenState}{R:Res},aaq w d u S os gs R→aaq w d' u' S os gs R:=by
 intro os
 induction os with
 | nil=>exact fun G=>⟨G.1,fun A r=>G.2 A (r.mono hd hu)⟩
 | cons o os ih=>exact fun G=>⟨G.1,fun A r x s B h f=>(G.2 A (r.mono hd hu) x s B h f).mono (fun J z=>z) fun v gs' s' z=>z.imp fun J z=>z.imp fun J z=>z.imp fun J z=>⟨z.1,z.2.1,ih z.2.2.1,z.2.2.2⟩⟩
noncomputable def agf (cs:List Nat) (n:Nat):List (List Int):=match cs with
 | [a,b]=>afq a b n
 | [a,b,c]=>akI a b c n
 | _=>[]
theorem aj5 {α:Type}{l:List α}(h:l.length=2∨l.length=3):(∃ a b,l=[a,b])∨∃ a b c,l=[a,b,c]:=by
 obtain _ | ⟨a,_ | ⟨b,_ | ⟨c,_ | ⟨d,l⟩⟩⟩⟩:=l
 ·rcases h with h | h<;>cases h
 ·rcases h with h | h<;>cases h
 ·exact .inl ⟨a,b,rfl⟩
 ·exact .inr ⟨a,b,c,rfl⟩
 ·rcases h with h | h<;>cases h
theorem aqD {w:World}{A:Around}{s:Shared}{C:Cx}{n:Nat}{tn:Tok}{Q:Value→Shared→Prop}(ok:C.Ok) (r:aah A 1 3) (B:Bs w s.heap) (hn:n∈List.range 5)
  (h:∀ a' g gs R s',acr (aae [aak a' g false gs,R]) s s'→aaq w 30 130 dS (agf (C.vs.map VI.count) n) gs R→Q (.ref a') s'):WP w A (call (.ref 304) (.int n tn::ad6 C.vs)) Q s:=by
 obtain⟨lv,vs,st,Fs,xs⟩:=C
 have l23:=ok.l23
 have cs:=ok.cs
 dsimp only at *
 have hn':=List.mem_range.mp hn
 rcases aj5 l23 with⟨v1,v2,rfl⟩ | ⟨v1,v2,v3,rfl⟩
 ·have h1:=cs v1 (.head _)
  have h2:=cs v2 (.tail _ (.head _))
  exact aiY r B (abd _ h1).1 (abd _ h2).1 (by have:=(abd _ h1).2; exact q77 ‹_›) (abd _ h2).2 (by lia) fun a' g gs R s' m G=>h a' g gs R s' m (G.mono (by exact lb rfl) (by exact lb rfl))
 ·exact aot r B (cs v1 (.head _)) (cs v2 (.tail _ (.head _))) (cs v3 (.tail _ (.tail _ (.head _)))) hn fun a' g gs R s' m G=>h a' g gs R s' m G
theorem ahH {C:Cx}(ok:C.Ok) (n:Nat):∀ o∈agf (C.vs.map VI.count) n,o.length=C.vs.length:=by
 obtain⟨lv,vs,st,Fs,xs⟩:=C
 have l23:=ok.l23
 dsimp only at *
 rcases aj5 l23 with⟨v1,v2,rfl⟩ | ⟨v1,v2,v3,rfl⟩
 ·intro o m
  obtain⟨x,_,rfl⟩:=List.mem_map.mp m
  rfl
 ·intro o m
  obtain⟨x,_,m⟩:=List.mem_flatMap.mp m
  obtain⟨y,m2,rfl⟩:=List.mem_map.mp m
  obtain⟨z,_,e⟩:=List.mem_map.mp m2
  rw[← e]
  rfl
theorem akv:∀ n∈List.range 5,∀ a∈[1,2,3],∀ b∈[1,2,3],∀ c∈[1,2,3],(akI a b c n).length≤100:=by decide +kernel
theorem akc:∀ n∈List.range 5,∀ a∈[1,2,3],∀ b∈[1,2,3],(afq a b n).length≤100:=by decide +kernel
theorem alV {C:Cx}(ok:C.Ok) {n:Nat}(hn:n∈List.range 5):(agf (C.vs.map VI.count) n).length≤100:=by
 obtain⟨lv,vs,st,Fs,xs⟩:=C
 have l23:=ok.l23
 have cs:=ok.cs
 dsimp only at *
 rcases aj5 l23 with⟨v1,v2,rfl⟩ | ⟨v1,v2,v3,rfl⟩
 ·exact akc n hn _ (cs v1 (.head _)) _ (cs v2 (.tail _ (.head _)))
 ·exact akv n hn _ (cs v1 (.head _)) _ (cs v2 (.tail _ (.head _))) _ (cs v3 (.tail _ (.tail _ (.head _))))
section
variable {s:Shared}{L:List Res}
noncomputable def Cx.Kr (C:Cx) (i:Nat) (F:Fac):Res:=aae [aat C.st,akF F.f (ac9 F.L F.ct (.ref F.c) acE),aae (((C.Fs.take i).map fun F=>F.R C.lv C.vs)++((C.Fs.drop (i+1)).map fun F=>F.R C.lv C.vs))]
noncomputable def Cx.parts (C:Cx) (i:Nat) (F:Fac):List Res:=[aaQ C.lv C.vs,aai (F.L+1:Nat) (some (.int F.k F.tk)),aai (F.L+3:Nat) (some (.ref C.lv)),aai (F.L+2:Nat) (some (.int F.n F.tn)),aai (F.L+4:Nat) (some (.ref F.lc)),aa2 F.lc (ad6 C.vs).toArray,C.Kr i F]
theorem Cx.split {C:Cx}{i:Nat}{F:Fac}(h:C.Fs[i]? = some F):(C.Fs.map fun F=>F.R C.lv C.vs).Perm (F.R C.lv C.vs::(((C.Fs.take i).map fun F=>F.R C.lv C.vs)++((C.Fs.drop (i+1)).map fun F=>F.R C.lv C.vs))):=by
 have hlt:=(List.getElem?_eq_some_iff.mp h).1
 have he:C.Fs[i] = F:=by rw[List.getElem?_eq_getElem hlt] at h; exact Option.some.inj h
 have e:(C.Fs.map fun F=>F.R C.lv C.vs)=((C.Fs.take i).map fun F=>F.R C.lv C.vs)++F.R C.lv C.vs::((C.Fs.drop (i+1)).map fun F=>F.R C.lv C.vs):=by
  conv=>lhs; rw[← List.take_append_drop i C.Fs,List.drop_eq_getElem_cons hlt,he]
  simp
 simp only[e]
 exact List.perm_middle
theorem ahp {α:Type}(A M B:List α):(A++(M++B)).Perm (M++(A++B)):=by
 rw[← List.append_assoc,← List.append_assoc]
 exact List.perm_append_comm.append_right _
noncomputable def Cx.Oth (C:Cx) (i:Nat):List Res:=((C.Fs.take i).map fun F=>F.R C.lv C.vs)++((C.Fs.drop (i+1)).map fun F=>F.R C.lv C.vs)
noncomputable def Fac.Rs (F:Fac) (lv:Addr) (vs:List VI):List Res:=[akF F.f (ac9 F.L F.ct (.ref F.c) acE),aai (F.L+1:Nat) (some (.int F.k F.tk)),aai (F.L+2:Nat) (some (.int F.n F.tn)),aai (F.L+3:Nat) (some (.ref lv)),aai (F.L+4:Nat) (some (.ref F.lc)),aa2 F.lc (ad6 vs).toArray]
theorem Cx.open {C:Cx}{i:Nat}{F:Fac}(h:C.Fs[i]? = some F) (H:aa0 s (C.Fx::L)):aa0 s (C.parts i F++L):=by
 have h1:aa0 s ([aaQ C.lv C.vs,aat C.st,C.FsR]++L):=aa0.sep.mp H
 have h2:aa0 s (C.FsR::([aaQ C.lv C.vs,aat C.st]++L)):=aa0.front [_,_] h1
 have h5:aa0 s (F.Rs C.lv C.vs++(C.Oth i++([aaQ C.lv C.vs,aat C.st]++L))):=(aa0.sep (L:=F.Rs C.lv C.vs)).mp (show aa0 s (F.R C.lv C.vs::(C.Oth i++([aaQ C.lv C.vs,aat C.st]++L))) from ((aa0.sep.mp h2).perm ((Cx.split h).append_right _)))
 have h6:aa0 s (aae (C.Oth i)::(F.Rs C.lv C.vs++([aaQ C.lv C.vs,aat C.st]++L))):=aa0.sep.mpr (h5.perm (ahp _ _ _))
 exact ((aa0.sep (L:=[_,_,_])).mpr (aa0.pick [8,1,0,7,2,4,3,5,6] 9 (show aa0 s (aae (C.Oth i)::_::_::_::_::_::_::_::_::L) from h6))).pick [1,2,3,4,5,6,0] 7
theorem Cx.close {C:Cx}{i:Nat}{F:Fac}(h:C.Fs[i]? = some F) (H:aa0 s (C.parts i F++L)):aa0 s (C.Fx::L):=by
 have h8:aa0 s (C.Kr i F::_::_::_::_::_::_::L):=aa0.pick [6,0,1,2,3,4,5] 7 H
 have h7:aa0 s (aat C.st::_::aae (C.Oth i)::_::_::_::_::_::_::L):=(aa0.sep (L:=[_,_,_])).mp h8
 have h6:aa0 s (aae (C.Oth i)::(F.Rs C.lv C.vs++([aaQ C.lv C.vs,aat C.st]++L))):=h7.pick [2,1,4,6,5,7,8,3,0] 9
 have h4:aa0 s (F.Rs C.lv C.vs++(C.Oth i++([aaQ C.lv C.vs,aat C.st]++L))):=(aa0.sep.mp h6).perm (ahp _ _ _)
 have h3:aa0 s (F.R C.lv C.vs::(C.Oth i++([aaQ C.lv C.vs,aat C.st]++L))):=(aa0.sep (L:=F.Rs C.lv C.vs)).mpr h4
 have h2:aa0 s ((C.Fs.map fun F=>F.R C.lv C.vs)++([aaQ C.lv C.vs,aat C.st]++L)):=h3.perm ((Cx.split h).append_right _).symm
 exact (aa0.sep (L:=[_,_,_])).mpr ((aa0.sep.mpr h2).pick [1,2,0] 3)
theorem aa0.pure {p:Prop}(hp:p) (H:aa0 s L):aa0 s (agT p::L):=⟨fun g x e hn=>H.1 g x e fun R m=>hn R (.tail _ m),hp,fun R m=>⟨fun a e J=>e,fun g e J=>e⟩,H.2⟩
end
noncomputable def am7 (w:World) (C:Cx) (k:Int):abi (List Int) (List Ms) where
 out:=fun o ms v RY ms'=>∃ d,v=.ref d∧RY=ab7 w d C.kvs∧aep k o o.length ms ms'
 Sh:=C.Sh
section
variable {s:Shared}{L:List Res}{w:World}
theorem aho {C:Cx}{j:Nat}{F:Fac}{ms:List Ms}(h:C.Fs[j]? = some F) (H:aa0 s (C.Sh ms::L)):adF C.xs ms∧aa0 s (acs ms::(C.parts j F++L)):=by
 have h1:aa0 s (acs ms::agT (adF C.xs ms)::C.Fx::L):=(aa0.sep (L:=[_,_,_])).mp H
 refine⟨h1.at [_],?_⟩
 have h2:=Cx.open h (aa0.cut 1 (h1.pick [1,2,0] 3))
 exact (aa0.front (C.parts j F) h2)
theorem agL {C:Cx}{j:Nat}{F:Fac}{ms:List Ms}(h:C.Fs[j]? = some F) (ok:adF C.xs ms) (H:aa0 s (acs ms::(C.parts j F++L))):aa0 s (C.Sh ms::L):=by
 have h1:aa0 s (C.Fx::acs ms::L):=Cx.close h (aa0.back (C.parts j F) H)
 have h2:=aa0.pure ok h1
 exact (aa0.sep (L:=[_,_,_])).mpr (h2.pick [2,0,1] 3)
end
theorem amK {D:List Fz}:∀ {vs:List Value}{ns:List Int},RDs D vs (ns.map .int)→IntsAre vs ns
 | _,[],h=>by cases h; exact .nil
 | _,n::ns,h=>by
  cases h with
  | cons a b=>
   obtain⟨t,rfl⟩:=a.inti
   exact .cons n t (amK b)
section
variable {w:World}{env:Env}
theorem aoH {C:Cx}(ok:C.Ok):C.kvs.length≤3:=by
 unfold Cx.kvs
 rw[List.length_zip,List.length_map]
 have:=ok.l23
 lia
theorem anv {C:Cx}{j:Nat}{Fa:Fac}{k1:Result→Sem PySem.Fin}{l1:List Value}{p1:Pos}{it la d0:Addr}{D:List Fz}{vals:List Value}{os:List (List Int)}(F:aa8 env nsF gsF) (Cf:aap env .free csF (asF Fa.L)) (hco:env.scope.isCoroutine=false)
  (ok:C.Ok) (hF:C.Fs[j]? = some Fa) (hD:⟨false,la,vals.toArray⟩∈D) (hv:RDs D vals (os.map aoP)) (hos:∀ o∈os,o.length=C.vs.length)
  (hend:∀ A,aah A 34 150→∀ R0' ms0 s0 s L,abq L→adF C.xs ms0→aa0 s (aa5 w (aae [R0',C.Sh ms0]).fp (aae [R0',C.Sh ms0]).gp s0::C.Sh ms0::L)→
   GP w A (.func (aaa aar) env) [] (k1 (.ok .next)) (PR (am7 w C Fa.k) [] R0' ms0 s0) (PY w 34 150 (am7 w C Fa.k) [] R0' ms0 s0) s) :
  ∀ (n i:Nat),n+i=os.length→∀ A,aah A 34 150→∀ R0' ms0 s0 s L v2 v3 v4 v5,abq L→adF C.xs ms0→
   aa0 s (aa1 env.locals (aal nsF [some (.ref d0),some (.ref la),v2,v3,v4,v5])::aa5 w (aae [R0',C.Sh ms0]).fp (aae [R0',C.Sh ms0]).gp s0::ab7 w d0 C.kvs::fzR D::abx it la i::acs ms0::(C.parts j Fa++L))→
   GP w A (adK FS (.ref it) env) [.ret k1 none false l1 (.func (aaa aar) env) p1 []] ((model pw w).den (adK FS (.ref it) env)) (PR (am7 w C Fa.k) (os.drop i) R0' ms0 s0) (PY w 34 150 (am7 w C Fa.k) (os.drop i) R0' ms0 s0) s:=by
 have hk:0≤Fa.k∧Fa.k<4:=ok.fk Fa (List.mem_of_getElem? hF)
 have hlen:vals.length=os.length:=by have:=hv.length; simpa using this
 have hlist:∀ {s:Shared},(fzR D).P s→s.heap.IsList la vals.toArray:=fun {s} h=>(show s.heap.PlainList la vals.toArray from aas h _ hD).isList
 intro n
 induction n with
 | zero=>
  intro i hi A r R0' ms0 s0 s L v2 v3 v4 v5 hL hms H
  have r':aah (A.over (adK FS (.ref it) env) [.ret k1 none false l1 (.func (aaa aar) env) p1 []]) 33 147:=r.over
  have e:os.drop i=[]:=List.drop_eq_nil_of_le (by exact q42 ‹_›)
  rw[e]
  exists aen ?_,abF [_,_,_,_] r'.handled H (hlist (H.at [_,_,_])) (by simp; lia) fun s' H'=>?_
  exact aeq _ (hend A r _ _ _ _ (_::_::_::_::L) ⟨fun J z=>z,fun J z=>z,abp D,fun J z=>z,hL⟩ hms ((agL hF hms (aa0.pick [5,6,7,8,9,10,11,12,1,0,2,3,4] 13 H')).pick [1,0] 2))
 | succ n ih=>
  intro i hi A r R0' ms0 s0 s L v2 v3 v4 v5 hL hms H
  have r':aah (A.over (adK FS (.ref it) env) [.ret k1 none false l1 (.func (aaa aar) env) p1 []]) 33 147:=r.over
  have hlt:i<os.length:=by exact q28 ‹_›
  have ho:os[i]? = some os[i]:=List.getElem?_eq_getElem hlt
  have e:os.drop i=os[i]::os.drop (i+1):=List.drop_eq_getElem_cons hlt
  obtain⟨x,hx,hxd⟩:=hv.get (i:=i) (y:=aoP os[i]) (by simp[ho])
  obtain⟨ts,tvs,rfl,hts,htv⟩:=hxd.tup
  rw[e]
  exists aen ?_,aaN [_,_,_,_] H (hlist (H.at [_,_,_])) (by simpa using hx) fun s' H=>?_,0,goS 2 F H rfl fun s H=>?_,0,gCW ?_,ac8 ?_,abo 2 1 F H ?_,spL 0 F H rfl ?_,aa6 ?_,apD H.bs H (H.at [_,_]) (by have:=aoH ok; exact q73 ‹_›) fun s d' H=>?_,0,sL 3 F H rfl fun s H=>?_,0
  replace H:=aa0.pick [0,1,6,2,7,8,9,4,3,5,10,11,12,13] 14 H
  exists gCW ?_,anG (ms:=ms0) (ts:=ts) (vals:=tvs.toList) (o:=os[i]) (r'.mono (by exact lb rfl) (by exact lb rfl)) F Cf ok hk hms (by simpa using hts) (amK htv) (hos _ (List.getElem_mem hlt)) H fun s' ms' v4 v5 H hst=>?_,abe ?_
  refine abn rfl rfl rfl hco F.inter ?_
  exists 0,dL 3 F H rfl ?_
  intro gs2 hgs
  have ok':=hst.ok hk hms
  have H3:=(aa0.sep (L:=[_,_,_])).mpr (aa0.pick [0,2,3,1] 4 ((aa0.sep (L:=[_,_,_,_])).mpr (aa0.pick [2,3,4,5,1,6,0] 7 (agL hF ok' (aa0.pick [2,4,5,6,10,11,12,13,1,0,8,7,9,3] 14 H)))))
  refine⟨_,_,ms',⟨d',rfl,rfl,hst⟩,trivial,aaq.of ((((aa0.sep (L:=[_,_,_,_])).mpr (aa0.pick [2,3,4,5,1,6,0] 7 (agL hF ok' (aa0.pick [2,4,5,6,10,11,12,13,1,0,8,7,9,3] 14 H)))).pick [1,0] 2).freeK [] []) fun A' rA ms2 s3 HH=>?_,(H3.pick [1,0] 2).turn hL⟩
  obtain⟨okm,G2⟩:=aho hF (((aa0.sep (L:=[_,_,_,_])).mp (HH.pick [1,0,2] 3)).pick [5,0,1,2,3,4] 6)
  exact hgs A' _ _ s3 (abA rfl (ih (i+1) (by exact q34 ‹_›) A' rA _ ms2 s3 s3 [] _ _ _ _ trivial okm (aa0.pick [8,12,9,10,11,0,1,2,3,4,5,6,7] 13 G2)))
end
section
variable {w:World}{env:Env}
theorem anA {A:Around}{s:Shared}{C:Cx}{n:Nat}{nI:Int}{tn:Tok}{Q:Value→Shared→Prop}(e:nI=n) (ok:C.Ok) (r:aah A 1 3) (B:Bs w s.heap) (hn:n∈List.range 5)
  (h:∀ a' g gs R s',acr (aae [aak a' g false gs,R]) s s'→aaq w 30 130 dS (agf (C.vs.map VI.count) n) gs R→Q (.ref a') s'):WP w A (call (.ref 304) (.int nI tn::ad6 C.vs++[])) Q s:=by
 subst e
 rw[List.append_nil]
 exact aqD ok r B hn h
theorem aj1 {C:Cx}(ok:C.Ok):(ad6 C.vs).length≤1000:=by
 unfold ad6
 rw[List.length_map]
 have:=ok.l23
 lia
theorem ajA {C:Cx}{j:Nat}{Fa:Fac}{d0:Addr}{n:Nat}(F:aa8 env nsF gsF) (Cf:aap env .free csF (asF Fa.L)) (hco:env.scope.isCoroutine=false) (ok:C.Ok) (hF:C.Fs[j]? = some Fa) (en:Fa.n=n) (hn:n∈List.range 5)
  (hf:freeK (aae [aa1 env.locals (aal nsF [some (.ref d0),none,none,none,none,none]),ab7 w d0 C.kvs])) :
  aaq w 34 150 (am7 w C Fa.k) (agf (C.vs.map VI.count) n) (.fresh (.func (aaa aar) env)) (aae [aa1 env.locals (aal nsF [some (.ref d0),none,none,none,none,none]),ab7 w d0 C.kvs]):=by
 refine aaq.of hf fun A r ms s H=>?_
 have H1:=(aa0.sep (L:=[_,_])).mp (H.pick [1,0,2] 3)
 obtain⟨okm,H2⟩:=aho hF (H1.pick [3,0,1,2] 4)
 have H:=aa0.pick [8,10,9,0,1,2,3,4,5,6,7] 11 H2
 clear H1 H2
 have r':aah (A.over (.func (aaa aar) env) []) 33 147:=r.over
 exists afj ?_
 refine GP.lt ?_; intro QR' QY'
 exists gCW ?_,ac8 ?_,abo 0 7 F H ?_,aa3 ?_,acB 1 8 F aqY.obj H ?_
 refine aa3 ?_
 exists dLF [_,_,_,_,_,_,_] 0 F Cf H ?_
 refine ah0 ?_
 exists dLF [_,_,_,_,_,_,_,_] 1 F Cf H ⟨Fa.lc,_,[_,_,_,_,_,_,_,_,_],_,rfl,H,aj1 ok,fun s H=>aa6 ⟨H.bs,anA en ok (r'.mono (by exact lb rfl) (by exact lb rfl)) H.bs hn fun a2 g2 gs2 R2 s' m G2=>aa6 ?_⟩⟩
 replace H:=H.made m
 replace H:=aa0.pick [2,3,0,1] 4 ((aa0.sep (L:=[_,_])).mp (H.pick [2,0,1] 3))
 exists al3 (R₂:=emp) (r'.mono (by exact lb rfl) (by exact lb rfl)) G2 (by have:=alV ok hn; exact q75 ‹_›) H fun s v D H hv=>?_,sL 1 F H rfl fun s H=>?_
 obtain⟨la,tvs,rfl,hla,hlv⟩:=hv.lst
 exists abe ?_,aq3 ?_,dL 1 F H rfl ?_,aaM (show s.heap.PlainList la tvs from aas (H.at [_,_]) _ hla).isList H fun s it H=>?_
 intro p k' l hk
 have y:=anv (k1:=k') (l1:=l) (p1:=p) (it:=it) (la:=la) (d0:=d0) (D:=D) (vals:=tvs.toList) F Cf hco ok hF (by simpa using hla) hlv (ahH ok n) (fun A r R0' ms0 s0 s L hL hms H=>?_) _ 0 (Nat.add_zero _) A r _ ms _ s [] none none none none trivial okm (H.pick [0,1,4,3,2,5,6,7,8,9,10,11,12] 13)
 ·exact y
 ·rw[hk]
  exact abK (afm ⟨emp,_,⟨fun J z=>z,trivial⟩,trivial,rfl,(((aa0.sep (L:=[_,_])).mpr (aa0.pick [0,2,1] 3 (aa0.emp.mp H))).pick [1,0] 2).turn hL⟩)
theorem arf {A:Around}{s s0:Shared}{L:List Res}{fp:Addr→Prop}{gp:Nat→Prop}{R₁:Res}{C:Cx}{j:Nat}{Fa:Fac}{d0:Addr}{n:Nat}{ms:List Ms}{Q:Value→Shared→Prop}(r:aah A 1 3) (ok:C.Ok) (hF:C.Fs[j]? = some Fa) (en:Fa.n=n) (hn:n∈List.range 5)
  (H:aa0 s (R₁::aa5 w fp gp s0::C.Sh ms::ab7 w d0 C.kvs::L))
  (h:∀ s' a g gs R,aa0 s' (R₁::aa5 w fp gp s0::aak a g false gs::R::C.Sh ms::L)→aaq w 34 150 (am7 w C Fa.k) (agf (C.vs.map VI.count) n) gs R→Q (.ref a) s'):WP w A (call (.ref Fa.f) [.ref d0]) Q s:=by
 have B:=H.bs
 obtain⟨okm,H2⟩:=aho hF (H.pick [2,0,1,3] 4)
 have hc:C.st=some Fa.c:=ok.fc Fa (List.mem_of_getElem? hF)
 have kr:aaf s [aat C.st,akF Fa.f (ac9 Fa.L Fa.ct (.ref Fa.c) acE),_]:=H2.at (R:=C.Kr j Fa) [_,_,_,_,_,_,_]
 have hp:(akF Fa.f (ac9 Fa.L Fa.ct (.ref Fa.c) acE)).P s:=kr.2.2.1
 have hpl:aaf s [plR 268 (al8 Fa.c),aiP Fa.c amz]:=by
  have h1:=kr.1
  rw[hc] at h1
  exact h1
 exists ald (d:=0) (u:=0) r B hp hpl.2.2.1 fun env a g s' F Cf hco m=>?_
 exact h s' a g _ _ (((aa0.sep (L:=[_,_])).mpr (((aa0.sep (L:=[_,_])).mp ((H.made m).pick [2,0,1,3,4] 5)).pick [1,5,0,2,3,4] 6)).pick [2,3,1,0,4] 5) (ajA F Cf hco ok hF en hn ((((aa0.sep (L:=[_,_])).mpr (((aa0.sep (L:=[_,_])).mp ((H.made m).pick [2,0,1,3,4] 5)).pick [1,5,0,2,3,4] 6)).pick [2,3,1,0,4] 5).freeK [_] [_]))
end
theorem aqw:FnC ahc 311 aiD [] ajF where
 obj P:=aqN.obj P
 code P:=aqN.code P
 chk:=by kernel_rfl
 cel n:=by kernel_rfl
theorem akp (v:Value):bindArgs ahc ⟨[v],[]⟩=(newTuple [] >>= fun t=>pure [(("initial_data" : Str),v),(("factories" : Str),t)]):=by kernel_rfl
theorem aj9 (v a:Value):bindArgs ahc ⟨[v,a],[]⟩=(newTuple [a] >>= fun t=>pure [(("initial_data" : Str),v),(("factories" : Str),t)]):=by kernel_rfl
theorem ajT (v a b:Value):bindArgs ahc ⟨[v,a,b],[]⟩=(newTuple [a,b] >>= fun t=>pure [(("initial_data" : Str),v),(("factories" : Str),t)]):=by kernel_rfl
theorem ajR (v a b c:Value):bindArgs ahc ⟨[v,a,b,c],[]⟩=(newTuple [a,b,c] >>= fun t=>pure [(("initial_data" : Str),v),(("factories" : Str),t)]):=by kernel_rfl
theorem ajU (v:Value) (xs:List Value) (h:xs.length≤3):bindArgs ahc ⟨v::xs,[]⟩=(newTuple xs >>= fun t=>pure [(("initial_data" : Str),v),(("factories" : Str),t)]):=by
 match xs,h with
 | [],_=>exact akp v
 | [a],_=>exact aj9 v a
 | [a,b],_=>exact ajT v a b
 | [a,b,c],_=>exact ajR v a b c
 | _::_::_::_::_,h=>simp at h
section
variable {w:World}{A:Around}{s:Shared}{env:Env}{L:List Res}
theorem alv {v i:Expr}{p pos:Pos}{args:List Expr}{Q:Value→Shared→Prop}(h:WP w A (eval (.Subscript v i p) env) (fun f s₁=>WP w A (callWith pos f [] (backTo pos (starEach args env)) []) Q s₁) s):WP w A (eval (.Call (.Subscript v i p) args [] pos) env) Q s:=by
 show WP w A (do callWith pos (← eval (.Subscript v i p) env) [] (backTo pos (starEach args env)) (backToKw pos (keywordEach [] env))) Q s
 exact .bind h
theorem aeY {l:Addr}{items:Array Value}{Q:Bool→Shared→Prop}(hl:s.heap.IsTuple l items) (h:Q false s):WP w A (notIterableAtAll (.ref l)) Q s:=by
 refine .of ?_
 refine wpAny_bind (wpAny_specialOf hl.typeIs PySem.F.slot_tuple_iter.lookup ?_)
 exact wpAny_pure h
theorem aoq {e:Expr}{p pos:Pos}{rest:List Expr}{Q:List Value→Shared→Prop}
  (h:WP w A (eval e env) (fun v s₁=>∃ l vs L,v=.ref l∧s₁.heap.IsTuple l (List.toArray vs)∧aa0 s₁ L∧vs.length≤1000∧∀ s₂,aa0 s₂ L→WP w A (spliced (backTo pos (starEach rest env))) (fun us s3=>Q (vs++us) s3) s₂) s) :
  WP w A (spliced (backTo pos (starEach (.Starred e p::rest) env))) Q s:=by
 show WP w A (spliced ((true,(do let v ← eval e env; standAt pos; pure v))::backTo pos (starEach rest env))) Q s
 refine .bind (.bind (h.mono fun v s₁ x=>.bind (.stand (.pure ?_))))
 obtain⟨l,vs,L,rfl,ht,H,hn,hQ⟩:=x
 refine .bind (aeY ht ?_)
 obtain⟨o,ho,hc,n,hd⟩:=ht
 refine .bind (.of (wpAny_collect_seq l (T := "tuple") (.inr rfl) ho hc hd (fun h' hk=>?_) (Nat.le_trans hn aan)))
 exact .bind (.hold ((hQ _ (H.keep (aaO hk s₁.toks))).mono fun us s3 x=>.pure x))
end
end
section
variable {α β σ:Type}{w:World}{A:Around}{s:Shared}{L:List Res}
theorem al4 {S1:abi α σ}{S2:abi β σ}{fs0:List Frame}(f1 f:α→β) (hSh:S1.Sh=S2.Sh) (hview1:∀ o v M R RY,S1.view o v R RY→S2.view (f1 o) v (aae (M++[R])) RY) (hview:∀ o v M R RY,S1.view o v R RY→S2.view (f o) v (aae (M++[R])) RY) {Fr:Res}{a:Addr}{g:Nat}{cF:Code}{k':Result→Sem PySem.Fin}{l:List Value}{p:Pos}{d u d₂ u₂:Nat}{rest:List β}
  (hfs:splitAtGen (.ret k' none false l cF p []::fs0)=none) (hfg:(.ret k' none false l cF p []::fs0:List Frame).any Frame.guarded=false)
  (hr:∀ A,aah A d₂ u₂→aah (A.over (cY a) (.ret k' none false l cF p []::fs0)) (d+1) (u+1))
  (hout:∀ o x v RY y,S1.out o x v RY y→S2.out (f o) x v RY y)
  (hend:∀ A,aah A d₂ u₂→∀ R0' x x' s0 s L,S1.fin x x'→abq L→aa0 s (aa5 w (aae [R0',S2.Sh x]).fp (aae [R0',S2.Sh x]).gp s0::Fr::S2.Sh x'::L)→GP w A cF fs0 (k' (.ok (.ret .none))) (PR S2 rest R0' x s0) (PY w d₂ u₂ S2 rest R0' x s0) s)
  (os gs R) (G:aaq w d u S1 os gs R) (A) (r:aah A d₂ u₂) (R0' x0' x1' s0 s L) (hL:abq L) (H:aa0 s (aa5 w (aae [R0',S2.Sh x0']).fp (aae [R0',S2.Sh x0']).gp s0::Fr::aak a g false gs::R::S2.Sh x1'::L))
  (hout1:∀ o v RY y,o∈os→S1.out o x1' v RY y→S2.out (f1 o) x0' v RY y)
  (hend1:os=[]→∀ x' s' ,S1.fin x1' x'→aa0 s' (aa5 w (aae [R0',S2.Sh x0']).fp (aae [R0',S2.Sh x0']).gp s0::Fr::S2.Sh x'::L)→GP w A cF fs0 (k' (.ok (.ret .none))) (PR S2 rest R0' x0' s0) (PY w d₂ u₂ S2 rest R0' x0' s0) s') :
  GP w A (cY a) (.ret k' none false l cF p []::fs0) ((model pw w).den (cY a)) (PR S2 (abz f1 f os++rest) R0' x0' s0) (PY w d₂ u₂ S2 (abz f1 f os++rest) R0' x0' s0) s:=by
 have loop:=ajo (rest:=rest) (Fr:=Fr) (a:=a) (g:=g) (cF:=cF) (k':=k') (l:=l) (p:=p) (fs0:=fs0) f hSh hview hfs hfg hr hout hend
 cases os with
 | nil=>exact aeW (os:=[]) f1 f hSh hview1 hfs hfg hr gs R G A r R0' x0' x1' s0 s L hL H (fun o os' e=>nomatch e) hend1 (fun o os' e=>nomatch e)
 | cons o os=>exact aeW (os:=o::os) f1 f hSh hview1 hfs hfg hr gs R G A r R0' x0' x1' s0 s L hL H (fun o' os' e v RY y=>hout1 o' v RY y ((e)▸(.head _))) (fun e=>nomatch e) (fun o' os' e=>by cases e; exact loop os)
end
section
open Builtin Builtin.ObjectAttr
noncomputable def ak5:List (Int × List Int)→List Ms→List Ms→Prop
 | [],ms,ms'=>ms'=ms
 | p::r,ms,ms'=>∃ m1,aep p.1 p.2 p.2.length ms m1∧ak5 r m1 ms'
noncomputable def ab1:List (Int × List (List Int))→List (List (Int × List Int))
 | []=>[[]]
 | p::ls=>p.2.flatMap fun o=>abz ((p.1,o)::·) id (ab1 ls)
noncomputable def chS (w:World) (C:Cx) (dead:Prop):abi (List (Int × List Int)) (List Ms) where
 out:=fun u ms v RY ms'=>∃ d,v=.ref d∧RY=ab7 w d C.kvs∧ak5 u ms ms'
 Sh:=C.Sh
 fin:=fun ms ms'=>ms'=ms∨(dead∧adF C.xs ms')
noncomputable def Cx.lvls (C:Cx) (j:Nat):List (Int × List (List Int)):=(C.Fs.drop j).map fun F=>(F.k,agf (C.vs.map VI.count) F.n.toNat)
noncomputable def Cx.fvals (C:Cx) (j:Nat):List Value:=(C.Fs.drop j).map fun F=>.ref F.f
noncomputable def ajp (w:World) (C:Cx) (m j:Nat):Prop:=∀ (A:Around) (s s0:Shared) (L:List Res) (fp:Addr→Prop) (gp:Nat→Prop) (R₁:Res) (d0:Addr) (Q:Value→Shared→Prop),aah A 1 3→aa0 s (R₁::aa5 w fp gp s0::ab7 w d0 C.kvs::L)→
 (∀ s' a g gs R,aa0 s' (R₁::aa5 w fp gp s0::aak a g false gs::R::L)→aaq w (40+3 * m) (170+8 * m) (chS w C (ab1 (C.lvls j)=[])) (ab1 (C.lvls j)) gs R→Q (.ref a) s')→WP w A (call (.ref 311) (.ref d0::C.fvals j)) Q s
noncomputable def CS:Stmt:=at' (aaa (D 12)) 2
section
variable {w:World}{env:Env}
theorem apy {C:Cx}{m j:Nat}{Fa:Fac}{k1:Result→Sem PySem.Fin}{l1:List Value}{p1:Pos}{a t:Addr}{g:Nat}{items:Array Value}{v0:Option Value}(F:aa8 env aiD ajF) (hco:env.scope.isCoroutine=false)
  (ok:C.Ok) (hF:C.Fs[j]? = some Fa) (hF3:C.Fs.length≤3) (hit:items.toList.drop 1=C.fvals (j+1)) (hsz:1≤items.size∧items.size≤1000) (ihc:ajp w C m (j+1)) (dead:Prop) (hdead:ab1 (C.lvls (j+1))=[]→dead)
  (hend:∀ A,aah A (40+3 * (m+1)) (170+8 * (m+1))→∀ R0' x0' x1' s0 s L,abq L→(x1'=x0'∨(ab1 (C.lvls (j+1))=[]∧adF C.xs x1'))→aa0 s (aa5 w (aae [R0',C.Sh x0']).fp (aae [R0',C.Sh x0']).gp s0::C.Sh x1'::L)→
   GP w A (.func (aaa (D 12)) env) [] (k1 (.ok .next)) (PR (chS w C dead) [] R0' x0' s0) (PY w (40+3 * (m+1)) (170+8 * (m+1)) (chS w C dead) [] R0' x0' s0) s) :
  ∀ os gs R,aaq w 34 150 (am7 w C Fa.k) os gs R→∀ A,aah A (40+3 * (m+1)) (170+8 * (m+1))→∀ R0' x0' x1' s0 s L v2,abq L→(x1'=x0'∨(ab1 (C.lvls (j+1))=[]∧adF C.xs x1'))→
   aa0 s (aa1 env.locals (aal aiD [v0,some (.ref t),v2])::aa5 w (aae [R0',C.Sh x0']).fp (aae [R0',C.Sh x0']).gp s0::([ac5 t items]++([aak a g false gs,R,C.Sh x1']++L)))→
   GP w A (adK CS (.ref a) env) [.ret k1 none false l1 (.func (aaa (D 12)) env) p1 []] ((model pw w).den (adK CS (.ref a) env)) (PR (chS w C dead) (os.flatMap fun o=>abz ((Fa.k,o)::·) id (ab1 (C.lvls (j+1)))) R0' x0' s0)
    (PY w (40+3 * (m+1)) (170+8 * (m+1)) (chS w C dead) (os.flatMap fun o=>abz ((Fa.k,o)::·) id (ab1 (C.lvls (j+1)))) R0' x0' s0) s:=by
 intro os
 induction os with
 | nil=>
  intro gs R G A r R0' x0' x1' s0 s L v2 hL hP H
  have r':aah (A.over (adK CS (.ref a) env) [.ret k1 none false l1 (.func (aaa (D 12)) env) p1 []]) (39+3 * (m+1)) (167+8 * (m+1)):=aah.over2 (dd:=1) (uu:=3) (r.mono (by lia) (by lia)) rfl rfl rfl
  exists aen ?_,agB (S:=am7 w C Fa.k) (x:=x1') (d:=34) (u:=150) [_] (r'.mono (by lia) (by lia)) G H fun s' H'=>?_
  exact aeq _ (hend A r _ _ _ _ _ (_::_::L) ⟨fun J z=>z,fun J z=>z,hL⟩ hP (aa0.pick [1,3,0,2] 4 H'))
 | cons o os ih=>
  intro gs R G A r R0' x0' x1' s0 s L v2 hL hP H
  have r':aah (A.over (adK CS (.ref a) env) [.ret k1 none false l1 (.func (aaa (D 12)) env) p1 []]) (39+3 * (m+1)) (167+8 * (m+1)):=aah.over2 (dd:=1) (uu:=3) (r.mono (by lia) (by lia)) rfl rfl rfl
  exists aen ?_,aeH (S:=am7 w C Fa.k) (x:=x1') (d:=34) (u:=150) [_] (r'.mono (by lia) (by lia)) G H fun v gs' R' RY ms1 s' ho hG H=>?_
  obtain⟨dn,rfl,rfl,hst⟩:=ho
  have okm:adF C.xs ms1:=by
   have h1:aaf s' [acs ms1,agT (adF C.xs ms1),C.Fx]:=H.at (R:=C.Sh ms1) [_,_,_,_,_,_]
   exact h1.2.2.1
  exists 0,goS 2 F H rfl fun s H=>?_,abe ?_,adh F.inter ?_,acB 1 9 F aqN.obj H ?_,spL 2 F H rfl ?_,aoq ?_,aji ?_,dL 1 F H rfl ⟨t,items,_,_,[],_,rfl,H,Nat.le_refl 1,hsz.1,hsz.2,fun J=>rfl,fun s b H=>⟨b,C.fvals (j+1),_,rfl,by rw[← hit]; exact H.at [_,_],H,by unfold Cx.fvals; simp only[List.length_map,List.length_drop]; omega,fun s H=>aa6 ⟨H.bs,?_⟩⟩⟩
  rw[List.append_nil]
  refine ihc _ _ _ _ _ _ _ dn _ (r'.mono (by exact lb rfl) (by exact lb rfl)) (H.pick [0,1,6,2,3,4,5,7] 8) fun s' a2 g2 gs2 R2 H G2=>?_
  refine⟨a2,g2,rfl,(H.at [_,_]).1,fun p2 k2 l2 hk2=>?_⟩
  have H2:=(aa0.sep (L:=[_,_,_,_])).mpr (aa0.pick [0,5,6,7,1,2,3,8,4] 9 H)
  have e:((o::os).flatMap fun o=>abz ((Fa.k,o)::·) id (ab1 (C.lvls (j+1))))=abz ((Fa.k,o)::·) id (ab1 (C.lvls (j+1)))++os.flatMap fun o=>abz ((Fa.k,o)::·) id (ab1 (C.lvls (j+1))):=List.flatMap_cons
  exists al4 (S1:=chS w C (ab1 (C.lvls (j+1))=[])) (S2:=chS w C dead) ((Fa.k,o)::·) id rfl (fun J J J J J J=>trivial) (fun J J J J J J=>trivial) rfl rfl (fun A r=>(aah.over2 (dd:=1) (uu:=4) (d:=40+3 * m+1) (u:=170+8 * m+1) (r.mono (by simp +arith) (by simp +arith)) rfl rfl rfl)) (fun o x v RY y h=>h) (fun A r R0' x x' s0 s L hx hL H=>?_) _ gs2 R2 G2 A r R0' x0' ms1 s0 _ (_::L) ⟨fun J z=>z,hL⟩ (H2.pick [1,0,2,3,4,5] 6) (fun u v RY y hu ⟨d,e1,e2,e3⟩=>⟨d,e1,e2,ms1,?_,e3⟩) (fun he x' s' hx H=>?_)
  ·simp only[hk2]
   exists abK ?_,abA rfl ?_
   refine ih gs' R' hG A r R0' x x' s0 s L _ hL ?_ (((aa0.sep (L:=[_,_,_,_])).mp (H.pick [1,0,2] 3)).pick [0,4,1,2,3,5] 6)
   exact hx
  ·rcases hP with rfl | ⟨hd,_⟩
   ·exact hst
   ·rw[hd] at hu; exact nomatch hu
  ·simp only[hk2]
   exists abK ?_,abA rfl ?_
   refine ih gs' R' hG A r R0' x0' x' s0 s' (_::L) _ ⟨fun J z=>z,hL⟩ ?_ (((aa0.sep (L:=[_,_,_,_])).mp (H.pick [1,0,2] 3)).pick [0,4,1,2,3,5] 6)
   refine .inr ⟨he,?_⟩
   rcases hx with rfl | ⟨_,hx⟩
   ·exact okm
   ·exact hx
end
section
variable {w:World}{A:Around}{s:Shared}{env:Env}
theorem ak2 {v i e:Expr}{p pos:Pos}{rest:List Expr}{Q:Value→Shared→Prop}(h:WP w A (eval (.Subscript v i p) env) (fun fv s₁=>∃ f o fd,fv=.ref f∧WP w A (spliced (backTo pos (starEach (e::rest) env))) (fun vs s₂=>(s₂.heap.get? f=some o∧o.data=.func fd)∧WP w A (call (.ref f) vs) Q s₂) s₁) s)
  (he:starEach (e::rest) env=(false,eval e env)::starEach rest env:=by rfl):WP w A (eval (.Call (.Subscript v i p) (e::rest) [] pos) env) Q s:=by
 exists alv (h.mono fun fv s₁ x=>?_)
 obtain⟨f,o,fd,rfl,x⟩:=x
 refine abY (o:=o) (fd:=fd) ?_
 rw[he] at x ⊢
 exact aaG x
end
section
variable {w:World}
theorem aeg (C:Cx) (j:Nat):(C.fvals j).length=C.Fs.length - j:=by unfold Cx.fvals; rw[List.length_map,List.length_drop]
theorem an2 {C:Cx}(ok:C.Ok) (hF3:C.Fs.length≤3):∀ (m j:Nat),m+j=C.Fs.length→ajp w C m j:=by
 intro m
 induction m with
 | zero=>
  intro j hj A s s0 L fp gp R₁ d0 Q r H h
  have e0:C.fvals j=[]:=by
   have:=aeg C j
   exact List.eq_nil_of_length_eq_zero (by lia)
  have e1:C.lvls j=[]:=by unfold Cx.lvls; rw[List.drop_eq_nil_of_le (by exact q42 ‹_›)]; rfl
  have B:=H.bs
  rw[e0]
  exists amh (d:=0) (u:=0) (n0 := "initial_data") (n1 := "factories") aqw r B rfl (ajU _ [] (by simp)) (by simp) fun env a g t s' F Cf hco m=>?_
  have H1:=(aa0.sep (L:=[_,_,_])).mp ((H.made m).pick [2,0,1,3] 4)
  have H2:=(aa0.sep (L:=[_])).mp (H1.pick [1,0,2,3,4,5] 6)
  have H3:=(aa0.sep (L:=[_,_,_])).mpr (H2.pick [0,2,5,1,3,4] 6)
  refine h s' a g _ _ (H3.pick [2,3,1,0] 4) ?_
  simp only[e1]
  refine aaq.of ((H3.pick [2,3,1,0] 4).freeK [_] [_]) fun A r ms s H=>?_
  clear H1 H2 H3
  have H:=aa0.pick [0,3,1,2,4] 5 ((aa0.sep (L:=[_,_,_])).mp (H.pick [1,0,2] 3))
  have r':aah (A.over (.func (aaa (D 12)) env) []) 39 167:=r.over
  have F':aa8 env aiD ajF:=F
  exists 0,afj ?_
  refine GP.lt ?_; intro QR' QY'
  exists gCW ?_,akG F' H fun s H=>?_,gCI ?_,abS ?_,aaj 0 2 F' H ?_,spL 1 F' H rfl ?_,aa6 ?_,ag3 [_,_] H (lb rfl) fun s u H=>?_,0,aaW H fun s t H=>?_,0,tEq ?_
  refine ifP ((rfl)) ?_
  exists abe ?_,abn rfl rfl rfl hco F'.inter ?_,dL 0 F' H rfl ?_
  intro gs2 hgs
  have H5:=(aa0.sep (L:=[_,_,_])).mpr (((aa0.sep (L:=[_,_])).mpr (H.pick [0,2,1,3,4] 5)).pick [0,2,3,1] 4)
  refine⟨_,_,ms,⟨d0,rfl,rfl,rfl⟩,trivial,aaq.of ((((aa0.sep (L:=[_,_])).mpr (H.pick [0,2,1,3,4] 5)).pick [1,0,2,3] 4).freeK [] []) fun A' rA x' s3 HH=>?_,(H5.pick [1,0] 2).turn trivial⟩
  refine hgs A' _ _ s3 ?_
  exists gCW ?_,afM ?_
  exists afm ⟨_,x',⟨aba ?_,trivial⟩,trivial,.inl rfl,(((aa0.sep (L:=[_,_])).mpr (HH.pick [1,2,0] 3)).pick [1,0] 2).turn trivial⟩
  exact⟨fun J z=>z,fun J z=>z,trivial⟩
 | succ m0 ihm=>
  intro j hj A s s0 L fp gp R₁ d0 Q r H h
  have B:=H.bs
  have hlt:j<C.Fs.length:=by exact q28 ‹_›
  have hF:C.Fs[j]? = some C.Fs[j]:=List.getElem?_eq_getElem hlt
  obtain⟨n,en,hn⟩:=ok.fn C.Fs[j] (List.getElem_mem hlt)
  have e0:C.fvals j=.ref C.Fs[j].f::C.fvals (j+1):=by unfold Cx.fvals; rw[List.drop_eq_getElem_cons hlt]; rfl
  have e1:C.lvls j=(C.Fs[j].k,agf (C.vs.map VI.count) n)::C.lvls (j+1):=by unfold Cx.lvls; rw[List.drop_eq_getElem_cons hlt,List.map_cons,en]; rfl
  have e2:ab1 (C.lvls j)=(agf (C.vs.map VI.count) n).flatMap fun o=>abz ((C.Fs[j].k,o)::·) id (ab1 (C.lvls (j+1))):=by rw[e1]; rfl
  have hl:=aeg C j
  have hdead:ab1 (C.lvls (j+1))=[]→ab1 (C.lvls j)=[]:=fun e=>by
   rw[e2,e]
   induction agf (C.vs.map VI.count) n with
   | nil=>rfl
   | cons o os ih=>rw[List.flatMap_cons,ih]; rfl
  exists amh (d:=0) (u:=0) (n0 := "initial_data") (n1 := "factories") aqw r B rfl (ajU _ (C.fvals j) (by grind)) (by exact q10 ‹_› ‹_› ‹_› ‹_›) fun env a g t s' F Cf hco m=>?_
  have H1:=(aa0.sep (L:=[_,_,_])).mp ((H.made m).pick [2,0,1,3] 4)
  have H2:=(aa0.sep (L:=[_])).mp (H1.pick [1,0,2,3,4,5] 6)
  have H3:=(aa0.sep (L:=[_,_,_])).mpr (H2.pick [0,2,5,1,3,4] 6)
  refine h s' a g _ _ (H3.pick [2,3,1,0] 4) ?_
  generalize hdd:(ab1 (C.lvls j)=[])=dead at hdead ⊢
  simp only[e2]
  refine aaq.of ((H3.pick [2,3,1,0] 4).freeK [_] [_]) fun A r ms s H=>?_
  clear H1 H2 H3
  have H:=aa0.pick [0,3,1,2,4] 5 ((aa0.sep (L:=[_,_,_])).mp (H.pick [1,0,2] 3))
  have r':aah (A.over (.func (aaa (D 12)) env) []) (39+3 * (m0+1)) (167+8 * (m0+1)):=aah.over2 (dd:=1) (uu:=3) (r.mono (by simp +arith) (by simp +arith)) rfl rfl rfl
  have F':aa8 env aiD ajF:=F
  have hsz:(C.fvals j).toArray.size=C.Fs.length - j:=by simp[hl]
  exists 0,afj ?_
  refine GP.lt ?_; intro QR' QY'
  exists gCW ?_,akG F' H fun s H=>?_,gCI ?_
  refine abS ?_
  exists aaj 0 2 F' H ?_,spL 1 F' H rfl ?_,aa6 ?_,ag3 [_,_] H (by exact q10 ‹_› ‹_› ‹_› ‹_›) fun s u H=>?_,0,aaW H fun s t H=>?_,tEq ?_
  refine ifN ((by rw[hsz]; simp; grind)) ?_
  have hx0:(C.fvals j).toArray[0]? = some (.ref C.Fs[j].f):=by rw[e0]; rfl
  exists abK ?_,abe ?_,aq3 ?_,ak2 ?_,aeh 1 F' H rfl fun s u H=>?_,aim (k:=0) [_,_] H hx0 (by decide) ?_
  have hp:(akF C.Fs[j].f (ac9 C.Fs[j].L C.Fs[j].ct (.ref C.Fs[j].c) acE)).P s:=by
   have H2:=(aho hF (H.pick [4,0,1,2,3] 5)).2
   have kr:aaf s [aat C.st,akF C.Fs[j].f (ac9 C.Fs[j].L C.Fs[j].ct (.ref C.Fs[j].c) acE),_]:=H2.at (R:=C.Kr j C.Fs[j]) [_,_,_,_,_,_,_]
   exact kr.2.2.1
  refine⟨_,_,_,rfl,aa3<|dL 0 F' H rfl<|aa6 ⟨⟨hp,rfl⟩,arf (r'.mono (by exact lb rfl) (by exact lb rfl)) ok hF en hn (H.pick [0,1,4,3,2] 5) fun s' a2 g2 gs2 R2 H G2=>?_⟩⟩
  exists adt (H.at [_,_]).1 fun p k' l hk=>?_
  have hit:(C.fvals j).toArray.toList.drop 1=C.fvals (j+1):=by rw[e0]; rfl
  have y:=apy (m:=m0) (k1:=k') (l1:=l) (p1:=p) F' hco ok hF hF3 hit (by rw[hsz]; grind) (ihm (j+1) (by exact q34 ‹_›)) dead hdead (fun A r R0' x0' x1' s0 s L hL hx H=>?_) _ gs2 R2 G2 A r _ ms ms _ _ [] _ trivial (.inl rfl) (H.pick [0,1,5,2,3,4] 6)
  ·exact y
  ·rw[hk]
   exists abK ?_,afm ⟨emp,x1',⟨fun J z=>z,trivial⟩,trivial,?_,(((aa0.sep (L:=[_,_])).mpr (aa0.pick [0,2,1] 3 (aa0.emp.mp H))).pick [1,0] 2).turn hL⟩
   rcases hx with rfl | ⟨hx,h2⟩
   ·exact .inl rfl
   ·exact .inr ⟨hdead hx,h2⟩
end
theorem ack:Slot "generator" "__getattribute__" "object.__getattribute__":=
 .of (owner := "object") (n := "__getattribute__") (by rw[typeLookup_type,builtinLookup_eq_fast]; kernel_rfl) (by decide +kernel) (by decide +kernel) (by decide +kernel)
  (by first | exact .inl (by decide +kernel) | exact .inr (by decide +kernel)) (by rw[isSubtype_type]; kernel_rfl)
theorem aes:typeLookup (.type "generator") "__getattr__" = pure none:=by rw[typeLookup_type,builtinLookup_eq_fast]; kernel_rfl
theorem ah3:typeLookup (.type "generator") "keys" = pure none:=by rw[typeLookup_type,builtinLookup_eq_fast]; kernel_rfl
noncomputable abbrev afH (g:Nat) (nm qn:Value):Obj:={ cls:=.type "generator",data:=.fields #[.int g 0,nm,qn] }
theorem acM (a:Addr) (g:Nat) (nm qn:Value) (name:Str) (u:Tok) (hmiss:typeLookup (.type "generator") name=pure none) (hname:(["__module__", "__name__", "__qualname__", "__doc__", "__annotations__"]:List Str).contains name=false) (hsz:name.length+100≤sizeLine:=by size_fits) :
  Meets (Builtin.«object.__getattribute__» ⟨[.ref a,.str name u],[]⟩) (fun A R s=>s.heap.get? a=some (afH g nm qn)∧raisesAttr (.ref a) name A R s):=
 Meets.of_wp fun prog w A R s hs=>by
  obtain⟨hp,g,d,tk,os⟩:=s
  obtain⟨hx,hs⟩:=hs
  have hT:(⟨hp,g,d,tk,os⟩:Shared).TypeIs (.ref a) "generator" := ⟨_,hx,rfl⟩
  unfold Builtin.«object.__getattribute__»
  repeat (any_goals (first | assumption | wp_step))
  simp only[hname,Bool.false_eq_true,if_false]
  repeat (any_goals (first | assumption | wp_step))
  exact wpAny_raiseAttrError hs.1 hs.2 (attrMsg_fits (by decide +kernel) hsz)
theorem ago {prog:Program}{w:World}{A:Around}{E:Value→Shared→Prop}{s:Shared}{a:Addr}{g:Nat}{nm qn:Value}{name:Str}{Q:Option Value→Shared→Prop}
  (hx:s.heap.get? a=some (afH g nm qn)) (hmiss:typeLookup (.type "generator") name=pure none) (hname:(["__module__", "__name__", "__qualname__", "__doc__", "__annotations__"]:List Str).contains name=false) (hA:A.handled=none)
  (h:∀ h' tk,(∀ b o,s.heap.get? b=some o→h'.get? b=some o)→Q none { s with heap:=h',toks:=tk }) (hsz:name.length+100≤sizeLine:=by size_fits) :
  wpAny (model prog w) A (getAttr? (.ref a) name) Q E s:=by
 obtain⟨hp,g,d,tk,os⟩:=s
 have hT:∀ tk',(⟨hp,g,d,tk',os⟩:Shared).TypeIs (.ref a) "generator" := fun J=>⟨_,hx,rfl⟩
 have f1:=sub_AttributeError
 have f3:=ack.lookup
 have f4:=ack.bind (.ref a)
 have f5:=aes
 repeat (any_goals (first | assumption | exact hT _ | ((with_reducible show wpAny _ _ (call (Value.builtin "object.__getattribute__") _ _) _ _ _); refine call_meets ack (hT _) PySem.F.entry_object_getattribute (PySem.F.args_object_getattribute_2 _ _) (acM a _ nm qn name _ hmiss hname hsz) ⟨hx,hA,fun h' tk' e hx'=>?_⟩) | wp_step))
 obtain⟨t',u',he⟩:=hx'.there
 unfold getattributeRaised
 repeat (any_goals (first | assumption | wp_step))
 exact h _ _ hx'.keeps
noncomputable abbrev GE (elt target iter:Expr) (scope:Scope) (pos:Pos):Expr:=.GeneratorExp elt [⟨target,iter,[],0⟩] scope pos
section
variable {w:World}{A:Around}{c:Code}{fs:List Frame}{QR:Shared→Prop}{QY:Value→GenState→Shared→Prop}{s:Shared}{cenv:Env}{elt target iter:Expr}{scope:Scope}{pos:Pos}{it acc:Value}
theorem aro (h:QR s):GP w A c [] (leafOf (.ok .next)) QR QY s:=
 ⟨fun R p g kg lg cg pg st hb a b=>aao.go (step_leaf_gen ..) (a s h)⟩
theorem ahR (h1:GP w A (.compLoop (GE elt target iter scope pos) 0 it acc cenv) fs ((model pw w).den (.compLoop (GE elt target iter scope pos) 0 it acc cenv)) QR QY s)
  (h2:WP w (A.over (.compStart (GE elt target iter scope pos) 0 it acc cenv) fs) (pyIter it) (fun it' s'=>GP w A (.compLoop (GE elt target iter scope pos) 0 it' acc cenv) fs ((model pw w).den (.compLoop (GE elt target iter scope pos) 0 it' acc cenv)) QR QY s') s) :
  GP w A (.compStart (GE elt target iter scope pos) 0 it acc cenv) fs ((model pw w).den (.compStart (GE elt target iter scope pos) 0 it acc cenv)) QR QY s:=by
 show GP w A _ fs ((PySem.compStart (GE elt target iter scope pos) 0 it acc cenv).onRaise (leaving cenv)) QR QY s
 rw[Sem.onRaise_eq_wrap]
 exists aaU (.of (wpAny_askSetting ?_))
 split
 ·exact abA rfl h1
 ·exists aaU (.rule ?_)
  exact aaU (.stand (aaU (h2.mono fun it' s' x=>abA rfl x)))
theorem afJ (hfs:splitAtGen fs=none) (hfg:fs.any Frame.guarded=false) (hco:cenv.scope.isCoroutine=false)
  (h:WP w (A.over (.compLoop (GE elt target iter scope pos) 0 it acc cenv) fs) (pyNext it) (fun r s₁=>match r with
   | none=>GP w A (.compLoop (GE elt target iter scope pos) 0 it acc cenv) fs (leafOf (.ok .next)) QR QY s₁
   | some v=>WP w (A.over (.compLoop (GE elt target iter scope pos) 0 it acc cenv) fs) (letOwnedTupleGo target it v) (fun J s₂=>WP w (A.over (.compLoop (GE elt target iter scope pos) 0 it acc cenv) fs) (assign target cenv v) (fun J s3=>
     WP w (A.over (.compLoop (GE elt target iter scope pos) 0 it acc cenv) fs) (eval elt cenv) (fun y s4'=>∀ gs',(∀ A' QR' QY' s'',GP w A' (.compLoop (GE elt target iter scope pos) 0 it acc cenv) fs ((model pw w).den (.compLoop (GE elt target iter scope pos) 0 it acc cenv)) QR' QY' s''→acd w A' gs' QR' QY' s'')→QY y gs' s4') s3) s₂) s₁) s) :
  GP w A (.compLoop (GE elt target iter scope pos) 0 it acc cenv) fs ((model pw w).den (.compLoop (GE elt target iter scope pos) 0 it acc cenv)) QR QY s:=by
 show GP w A _ fs ((compTurn (GE elt target iter scope pos) 0 it acc cenv).onRaise (leaving cenv)) QR QY s
 rw[Sem.onRaise_eq_wrap]
 unfold compTurn
 exists aaU (.stand (aaU (h.mono fun r s₁ x=>?_)))
 cases r with
 | none=>exact x
 | some v=>
  exists aaU (x.mono fun J s₂ x=>aaU (x.mono fun J s3 x=>?_))
  exists aaU (.pure ?_)
  have hy:∀ v,yieldOut cenv v=yieldValue v:=fun v=>by simp only[yieldOut,hco,Bool.false_eq_true,if_false]
  show GP w A _ fs (((do let v ← eval elt cenv; standAt elt.pos; let _ ← yieldOut cenv v:Sem Unit) >>= fun J=>again (.compLoop (GE elt target iter scope pos) 0 it acc cenv)).wrap _ _ _ _) QR QY s3
  rw[Sem.bind_eq_wrap',Sem.wrap_wrap,Sem.bind_eq_wrap',Sem.wrap_wrap]
  exists ag0 (x.mono fun y s4' h'=>?_)
  show GP w A _ fs ((standAt elt.pos >>= fun J=>(yieldOut cenv y >>= fun J=>(pure ():Sem Unit))).wrap _ _ _ _) QR QY s4'
  rw[hy]
  exists aaU (.stand ?_)
  exists ajO hfs hfg (.inl rfl) fun p=>h' _ fun A' QR' QY' s'' hx=>?_
  exact abA rfl hx
end
noncomputable def asQ:Option Value→Int × Tok | some (.int i t)=>(i,t) | _=>(0,default)
theorem arZ {w:World}{h:Heap}{ps:Array Value}(B:Bs w h) (hp:∃ op,h.get? 280=some op∧op.data=.fields ps) (ht:TriplesOk ps.toList):h.IsCode 284 280 ps:=by
 obtain⟨op,ho,hd⟩:=hp
 exact⟨kAt w.params 69,aac (kAt w.params 69), "/claim/cut.py",abO (aac (kAt w.params 69))[18]?,35,0,true,(asQ (aac (kAt w.params 69))[10]?).1,(asQ (aac (kAt w.params 69))[10]?).2,op,B.k (284,kAt w.params 69) (mK 69 (by kernel_rfl)),by kernel_rfl,by kernel_rfl,by kernel_rfl,by kernel_rfl,by kernel_rfl,by kernel_rfl,ho,hd,ht,by decide⟩
theorem ata {w:World}{h:Heap}{ps:Array Value}(B:Bs w h) (hp:h.get? 280=some { cls:=.none,data:=.fields ps }):h.TableAt 284 280 ps:=
 ⟨⟨kAt w.params 69,aac (kAt w.params 69),B.k (284,kAt w.params 69) (mK 69 (by kernel_rfl)),by kernel_rfl,by kernel_rfl,by kernel_rfl⟩,hp⟩
theorem ao0 {scope:Scope}{nsC gsC:List Str}{L bi:Addr}{code:Value}{env:Env}{ns gs:List Str}(chk:acT scope nsC [] gsC=true) (F:aa8 env ns gs) (hb:bi=builtinsNs) (cl:List (Str × Addr)):aa8 (genEnv scope cl L code bi env) nsC gsC:=by
 obtain⟨h1,h2,h3,h4,h5,h6,h7,h8⟩:=alt chk
 exact⟨h1,h2,fun i x hx=>h3 x (List.mem_of_getElem? hx),fun i x hx=>h5 x (List.mem_of_getElem? hx),fun i x hx=>h6 x (List.mem_of_getElem? hx),F.globals,hb⟩
section
variable {w:World}{A:Around}{s s0:Shared}{env:Env}{ns gs:List Str}{elt target iter:Expr}{scope:Scope}{pos:Pos}{fp:Addr→Prop}{gp:Nat→Prop}
theorem anJ {nsC gsC:List Str}{Q:Value→Shared→Prop}(r:A.depth<recursionLimit) (F:aa8 env ns gs) (hcode:env.code=.ref 284) (chk:acT scope (".0" :: nsC) [] gsC=true) (hfree:∀ x∈scope.names,x.2≠.free) (hco:scope.isCoroutine=false)
  (h:WP w A (eval iter env) (fun x s₁=>WP w A (pyIter x) (fun it s₂=>∃ (R:Res) (fp:Addr→Prop) (gp:Nat→Prop) (s0:Shared) (ps:Array Value) (L:List Res),aa0 s₂ (R::aa5 w fp gp s0::plR 280 ps::L)∧ps = #[]∧∀ s3 cenv a g nm qn ps',aa8 cenv (".0" :: nsC) gsC→cenv.scope.isCoroutine=false→TriplesOk ps'.toList→
   aa0 s3 (R::aa5 w fp gp s0::aak a g false (.fresh (.compStart (GE elt target iter scope pos) 0 it .none cenv))::aa1 cenv.locals (aal (".0" :: nsC) (some it::List.replicate nsC.length none))::plR 280 ps'::L)→
   s3.heap.get? a=some (afH g nm qn)→Q (.ref a) s3) s₁) s)
  (hs:∀ x,genFold iter env x=pure x:=by intro _; rfl):WP w A (eval (GE elt target iter scope pos) env) Q s:=by
 have chk':=chk
 obtain⟨h1,h2,h3,h4,h5,h6,h7,h8⟩:=alt chk'
 have hcl:=abt (scope:=scope) (env:=env) (fun x=>0) fun x hx hf=>absurd hf (hfree x hx)
 rw[eval_GeneratorExp1 _ _ _ _ _ _ _ hco]
 refine .bind (h.mono fun x s₁ h1'=>.bind (.stand (.bind (.eq (hs x) (.bind (.hold (h1'.mono fun it s₂ h2''=>?_)))))))
 obtain⟨R,fp,gp,s0,_,L,H,rfl,hQ⟩:=h2''
 have B:=H.bs
 refine .bind (.of (wpAny_enterFrame B.nolimit r ?_))
 rw[hcl]
 refine .bind (.pure ?_)
 have hp:(plR 280 #[]).P s₂:=H.at [_,_]
 refine .bind (.of (wpAny_genexprCodeX hcode (arZ B ⟨_,hp,rfl⟩ trivial) (ata B hp) rfl fun c' h' tk hx J J hok J ht' J=>?_))
 have htr':TriplesOk (#[]++#[rawInt pos.line,rawInt pos.col,.ref c']).toList:=TriplesOk_snoc _ _ _ [] trivial
 clear hok
 generalize #[]++#[rawInt pos.line,rawInt pos.col,.ref c'] = ps' at ht' htr'
 generalize Value.ref c'=code
 have H1:=H.updAt [_,_] (R':=plR 280 ps') (s':={ s₂ with heap:=h',toks:=tk }) (.of (fun a o ha e=>hx a o ha e) rfl rfl ht'.2 (fun a e=>.inl e) (fun J z=>z) fun J z=>z)
 have B2:=H1.bs
 obtain⟨om,hm1,hm2,hm3,hm4⟩:=B2.bmod
 refine .bind (.of (wpAny_builtinsFor (globals:=env.globals) (by rw[F.globals]; exact B2.mg) (aop _) (by decide) hm1 hm2 hm3 hm4 ?_))
 refine .bind (.of (wpAny_newFunctionEnv (fun x hx=>by
  have:=(h8 x hx).1.1
  simpa using this) (fun x hx=>by rcases List.mem_singleton.mp hx with rfl; exact h3 _ (.head _)) (fun h0' hn hsb=>?_) h1))
 refine .bind (.of (wpAny_newGen (.of (wpAny_bind (wpAny_mkText (wpAny_bind (wpAny_mkText (wpAny_newObj_type ?_ (by size_fits)))))))))
 have hkp:∀ b o,h'.get? b=some o→h0'.get? b=some o:=fun b o q=>hsb.extBut b o (Nat.ne_of_lt (Heap.lt_size q)) (Heap.get?_push_of_some _ q)
 have H2:=H1.add (R':=aa1 h'.objs.size (aal (".0" :: nsC) (some it::List.replicate nsC.length none))) (s':={ s₂ with heap:=h0',toks:=tk+1 }) (.of hkp rfl rfl (abh hn fun y=>by
  exact aay [".0"] [it] nsC (List.replicate nsC.length none) y h2 rfl fun z hz=>(List.mem_replicate.mp hz).2) aa9 fun g z=>z)
 have H3:=H2.add (afX (c:=.compStart (GE elt target iter scope pos) 0 it .none (genEnv scope (agK (fun x=>0) scope.names []) h'.objs.size code builtinsNs env)) (nm:=.str "<genexpr>" (tk+1)) (qn:=.str (env.qual ++ "<genexpr>") (tk+1+1)) (tk:=tk+1+1+1))
 exact hQ _ (genEnv scope (agK (fun x=>0) scope.names []) h'.objs.size code builtinsNs env) h0'.objs.size s₂.gens.size _ _ ps' (ao0 chk F rfl _) hco htr' (H3.pick [2,3,0,1] 4) (Heap.get?_push_size _ rfl)
end
noncomputable def geS (lv:Addr) (vs:List VI):abi VI Unit where
 out:=fun v J val RY J=>∃ t m tn,val=.ref t∧RY=aae [ac5 t #[acb v.name tn,.ref m.x],msR m]∧m.abs=[]
 Sh:=fun J=>aaQ lv vs
noncomputable def ach (os:List VI) (ms:List Ms):List (Option Str × Value):=(os.map VI.name).zip (ms.map fun m=>Value.ref m.x)
noncomputable abbrev apM (d a:Addr) (i:Int):Args:=⟨[.ref d,.ref a,rawInt i,.none],[]⟩
theorem ajq:plainId "dict.update.loop" = true:=by decide +kernel
theorem afR (args:Args):(Code.builtin "dict.update.loop" args).quiet=true:=plainId_quiet ajq _
theorem agr:entryFor table "dict.update.loop" = some Builtin.«dict.update.loop»:=entryFor_of_tree (by kernel_rfl)
theorem aiA {kvs:List (Option Str × Value)}{k:Option Str}{v:Value}(h:k ∉ kvs.map (·.1)):stored kvs k v=kvs++[(k,v)]:=by
 unfold stored
 rw[if_neg]
 simpa using h
theorem adC {α:Type}{M:Model}{A:Around}{E:Value→Shared→Prop}{s:Shared}{m:Sem α}{k:Value→Sem α}{Q:α→Shared→Prop}(h:wpX M A m Q F0 s):wpX M A (m.tryCatch k) Q E s:=by
 intro R c st p K H gd lv hin h1 h2
 rw[Sem.tryCatch_eq_wrap,Sem.wrap_wrap]
 exact h R c st p _ _ _ _ hin h1 fun J J J x=>x.elim
theorem aa0.mapNew {s:Shared}{L:List Res}{α:Type}{f:α→Res}{l:List α}{x:α}(M:List Res) (H:aa0 s (M++aae (l.map f)::f x::L)):aa0 s (M++aae ((l++[x]).map f)::L):=by
 have h1:aa0 s (l.map f++(M++f x::L)):=aa0.sep.mp (H.front M)
 have h2:aa0 s ((l++[x]).map f++(M++L)):=h1.perm (by
  rw[List.map_append,List.append_assoc]
  exact List.Perm.append_left _ List.perm_middle)
 exact aa0.back M (aa0.sep.mpr h2)
section
variable {w:World}{s0:Shared}{L:List Res}{R₁:Res}{fp:Addr→Prop}{gp:Nat→Prop}{d0' a lv:Addr}{g d u:Nat}{vs:List VI}{P:Shared→Prop}
theorem anU:∀ (os:List VI) gs R,aaq w d u (geS lv vs) os gs R→∀ A,aah A (d+1) (u+2)→∀ s (pre:List VI) (ms:List Ms) (i:Int),pre.length=ms.length→(∀ m∈ms,m.abs=[])→((pre++os).map VI.name).Nodup→(pre++os).length≤100→
   aa0 s (R₁::aa5 w fp gp s0::([ab7 w d0' (ach pre ms),acs ms]++([aak a g false gs,R,aaQ lv vs]++L)))→
   (∀ s' ms',(pre++os).length=ms'.length→(∀ m∈ms',m.abs=[])→aa0 s' (R₁::aa5 w fp gp s0::ab7 w d0' (ach (pre++os) ms')::acs ms'::aaQ lv vs::L)→P s')→
   aaA (model pw w) A (.builtin "dict.update.loop" (apM d0' a i)) (aaP P) s:=by
 intro os
 induction os with
 | nil=>
  intro gs R G A r s pre ms i hl hm hn hc H h
  refine acp agr ?_
  refine aa4 (E:=F0) (Q:=fun fin s'=>fin=.done (.ret .none)∧P s') ?_ (fun fin s' x=>?_) fun J J x=>x.elim
  ·refine (show WP w A.in1 (pyNext (.ref a) >>= _) _ s from ?_).go
   refine .bind (agB (S:=geS lv vs) (x:=()) (d:=d) (u:=u) [_,_] (r.mono (Nat.le_refl _) (Nat.le_refl _):aah A (d+1) (u+1+1)).in1 G H fun s' H'=>?_)
   exact .pure ⟨rfl,h s' ms (by simpa using hl) hm (by rw[List.append_nil]; exact H')⟩
  ·obtain⟨rfl,x⟩:=x
   exact⟨rfl,x⟩
 | cons o os ih=>
  intro gs R G A r s pre ms i hl hm hn hc H h
  have hma:∀ m'∈ms,m'.abs=[]:=hm
  refine acp agr ?_
  refine aa4 (E:=F0) (Q:=fun fin s'=>fin=.again (.builtin "dict.update.loop" (apM d0' a (i+1)))∧aaA (model pw w) A (.builtin "dict.update.loop" (apM d0' a (i+1))) (aaP P) s') ?_ (fun fin s' x=>?_) fun J J x=>x.elim
  ·refine (show WP w A.in1 (pyNext (.ref a) >>= _) _ s from ?_).go
   refine .bind (aeH (S:=geS lv vs) (x:=()) (d:=d) (u:=u) [_,_] (r.mono (Nat.le_refl _) (Nat.le_refl _):aah A (d+1) (u+1+1)).in1 G H fun v gs' R' RY y s' ho hG H=>?_)
   obtain⟨t,m,tn,rfl,rfl,ha⟩:=ho
   cases y
   replace H:=aa0.pick [2,3,4,5,6,0,1,7] 8 ((aa0.sep (L:=[_,_])).mp (H.pick [6,0,1,2,3,4,5,7] 8))
   refine .bind (.hold ?_)
   obtain⟨ot,hot,hct,nt,hdt⟩:=id (H.at (R:=ac5 t #[acb o.name tn,.ref m.x]) [_,_,_,_,_])
   refine .bind ⟨adC ?_⟩
   refine aa4 (Q:=fun pr s₂=>pr=[acb o.name tn,.ref m.x]∧s₂=s') (E:=F0) ?_ (fun pr s₂ x=>?_) fun J J x=>x
   ·refine (show WP w A.in1 (Builtin.Dict.pairItems (.ref t)) _ s' from ?_).go
    unfold Builtin.Dict.pairItems
    refine .bind (.of (wpAny_typeOf ⟨ot,hot,hct⟩ ?_))
    refine .bind (.of (wpAny_seqItems hot hdt ?_))
    exact .pure ⟨rfl,rfl⟩
   ·obtain⟨rfl,rfl⟩:=x
    have hkv:(ach pre ms).map (·.1)=pre.map VI.name:=by
     unfold ach
     exact List.map_fst_zip (by simp[hl])
    have hnew:o.name ∉ (ach pre ms).map (·.1):=by
     rw[hkv]
     rw[List.map_append,List.map_cons,List.nodup_append] at hn
     exact fun hm=>hn.2.2 _ hm _ (.head _) rfl
    have hlen:(ach pre ms).length≤1000:=by
     have:((ach pre ms).map (·.1)).length≤1000:=by
      rw[hkv,List.length_map]
      rw[List.length_append] at hc
      lia
     simpa using this
    refine .hold (.of (wpAny_dictSet_pairs (ad8 o.name tn) (H.at [_,_]).1 (fun h' hm' hs=>WP.pure ⟨rfl,?_⟩) (Nat.le_trans hlen aan)))
    have H2:=H.updAt [_,_] (R':=ab7 w d0' (stored (ach pre ms) o.name (.ref m.x))) (aaB hs (s₂.toks+1) rfl rfl rfl rfl ⟨hm',(H.at [_,_]).2⟩)
    have e:stored (ach pre ms) o.name (.ref m.x)=ach (pre++[o]) (ms++[m]):=by
     rw[aiA hnew]
     unfold ach
     rw[List.map_append,List.map_append,List.zip_append (by simp[hl])]
     rfl
    rw[e] at H2
    have H3:=aa0.mapNew (f:=msR) (l:=ms) (x:=m) [_,_,_] (aa0.cut 1 (H2.pick [5,0,1,2,3,6,4,7,8] 9))
    have e2:(pre++[o])++os=pre++o::os:=by simp
    refine ih gs' R' hG A r _ (pre++[o]) (ms++[m]) (i+1) (by simp[hl]) (fun m' hm=>?_) (by rw[e2]; exact hn) (by rw[e2]; exact hc) H3 fun s' ms' g1 g2 H'=>?_
    ·rcases List.mem_append.mp hm with hm | hm
     ·exact hma m' hm
     ·rw[List.mem_singleton.mp hm]; exact ha
    ·rw[e2] at g1 H'
     exact h s' ms' g1 g2 H'
  ·obtain⟨rfl,x⟩:=x
   exact⟨afR _,x⟩
end
section
variable {w:World}{A:Around}{s s0:Shared}{env:Env}{L:List Res}{ns gs:List Str}{fp:Addr→Prop}{gp:Nat→Prop}{R:Res}
theorem ahg {c od cd sl a x np pos e rest}{Q:Value→Shared→Prop}(j i:Nat) (F:aa8 env ns gs) (H:aa0 s (R::aa5 w fp gp s0::L)) (ho:(a,(⟨c,od,.cls cd,sl⟩:Obj))∈K w.params) (hc:specialIn (K w.params) (.ref a) "__call__" = some (some (.builtin "type.__call__")))
  (h:WP w A (spliced (backTo pos (starEach (e::rest) env))) (fun vs s₁=>Bs w s₁.heap∧WP w A (call (.ref a) vs) Q s₁) s)
  (hx:gs[j]? = some x:=by rfl) (hg:gl[i]? = some (x,.ref a):=by rfl) (he:starEach (e::rest) env=(false,eval e env)::starEach rest env:=by rfl) (ha:(starEach (e::rest) env).any (·.1)=false:=by rfl) :
  WP w A (eval (.Call (.Name x np) (e::rest) [] pos) env) Q s:=by
 exists aeT (dG j i F H.bs (adu (c:=c) (od:=od) (cd:=cd) (sl:=sl) (afc ha) hc ?_) hx hg)
 rw[he] at h ⊢
 exact aaG (h.mono fun vs s₁ ⟨b,h1'⟩=>⟨b,b.k _ ho,h1'⟩)
theorem afK {c od cd sl a x np pos}{Q:Value→Shared→Prop}(j i:Nat) (F:aa8 env ns gs) (H:aa0 s (R::aa5 w fp gp s0::L)) (ho:(a,(⟨c,od,.cls cd,sl⟩:Obj))∈K w.params) (hc:specialIn (K w.params) (.ref a) "__call__" = some (some (.builtin "type.__call__")))
  (h:WP w A (call (.ref a) []) Q s) (hx:gs[j]? = some x:=by rfl) (hg:gl[i]? = some (x,.ref a):=by rfl) :
  WP w A (eval (.Call (.Name x np) [] [] pos) env) Q s:=by
 exists aeT (dG j i F H.bs (adu (c:=c) (od:=od) (cd:=cd) (sl:=sl) rfl hc ?_) hx hg)
 exact adE ⟨H.bs,H.bs.k _ ho,h⟩
noncomputable def aqH (o:Obj):ClassData:=match o.data with | .cls cd=>cd | _=>default
theorem ajS (P:Params):(178,(⟨(kAt P 36).cls,(kAt P 36).dict,.cls (aqH (kAt P 36)),(kAt P 36).slots⟩:Obj))∈K P:=mK 36 (by kernel_rfl)
theorem anb (P:Params):(263,(⟨(kAt P 63).cls,(kAt P 63).dict,.cls (aqH (kAt P 63)),(kAt P 63).slots⟩:Obj))∈K P:=mK 63 (by kernel_rfl)
theorem ah2 (P:Params):specialIn (K P) (.ref 178) "__call__" = some (some (.builtin "type.__call__")):=by kernel_rfl
theorem anM (P:Params):specialIn (K P) (.ref 263) "__call__" = some (some (.builtin "type.__call__")):=by kernel_rfl
end
section
variable {w:World}{s0:Shared}{L:List Res}{R₁:Res}{fp:Addr→Prop}{gp:Nat→Prop}{a lv:Addr}{g d u:Nat}{vs:List VI}
theorem alA {A:Around}{s:Shared}{os:List VI}{gs nm qn}{R:Res}{Q:Value→Shared→Prop}(r:aah A (d+1) (u+4)) (G:aaq w d u (geS lv vs) os gs R) (hgo:s.heap.get? a=some (afH g nm qn)) (hn:(os.map VI.name).Nodup) (hc:os.length≤100)
  (H:aa0 s (R₁::aa5 w fp gp s0::aak a g false gs::R::aaQ lv vs::L))
  (h:∀ s' dd ms,os.length=ms.length→(∀ m∈ms,m.abs=[])→aa0 s' (R₁::aa5 w fp gp s0::ab7 w dd (ach os ms)::acs ms::aaQ lv vs::L)→Q (.ref dd) s'):WP w A (call (.type "dict") [.ref a]) Q s:=by
 exists aeE (Q₁:=fun obj s₁=>obj=.ref s.heap.objs.size∧s₁={ s with heap:=s.heap.push { cls:=.type "dict",data:=.dict #[] } }) PySem.F.kt_called_dict (PySem.F.kt_typeCall_dict_1 _) PySem.F.entry_dict_init (abl (adJ (kt_code_dict_new (prog:=pw) (w:=w) (A:=A.in1) (s:=s) (E:=F0) (Q₁:=fun obj s₁=>obj=.ref s.heap.objs.size∧s₁={ s with heap:=s.heap.push { cls:=.type "dict",data:=.dict #[] } }) (.ref a) ⟨rfl,rfl⟩)) fun r s' x=>?_) ?_
 ·rcases r with e | (v | _ | _ | _)<;>first | exact x | exact x.elim
 rintro obj s₁ ⟨rfl,rfl⟩
 have hnew:(s.heap.push { cls:=.type "dict",data:=.dict #[] }).DictOf (acy w) s.heap.objs.size []:=Heap.DictOf.new s.heap
 have H1:=H.made (R':=ab7 w s.heap.objs.size []) (s':={ s with heap:=s.heap.push { cls:=.type "dict",data:=.dict #[] } }) (.of (fun J J e=>Heap.get?_push_of_some _ e) rfl rfl ⟨hnew,afu (R:=emp) H.bs⟩ aa9 fun J z=>z)
 have hgo1:(s.heap.push { cls:=.type "dict",data:=.dict #[] }).get? a=some (afH g nm qn):=Heap.get?_push_of_some _ hgo
 refine⟨hnew.typeIs,PySem.F.args_dict_init_2 _ _,?_⟩
 have body:WP w A.in1.in1 (Builtin.«dict.__init__» ⟨[.ref s.heap.objs.size,.ref a],[]⟩) (fun fin s'=>fin=.again (.builtin "dict.update.loop" (apM s.heap.objs.size a 0))∧aaA (model pw w) A.in1 (.builtin "dict.update.loop" (apM s.heap.objs.size a 0)) (aaP (Q (.ref s.heap.objs.size))) s') { s with heap:=s.heap.push { cls:=.type "dict",data:=.dict #[] } }:=by
  unfold Builtin.«dict.__init__»
  refine .bind ?_
  unfold Builtin.Dict.selfAndRest
  refine .bind (.of (wpAny_notOrdered_dict hnew.typeIs ?_))
  refine .pure ?_
  show WP w _ (Builtin.Dict.updateFrom "dict.__init__" s.heap.objs.size (.ref a) [] .none) _ _
  refine .bind (.of (wpAny_typeOf ⟨_,hgo1,rfl⟩ ?_))
  refine .bind (.of (ago hgo1 ah3 (by decide) (r.mono (Nat.le_refl _) (Nat.le_refl _):aah A (d+1) (u+3+1)).in1.handled fun h' tk hk=>?_))
  refine .bind (.rule (.bind (adt ((H1.keep (aaO hk tk)).at [_,_,_]).1 ?_)))
  refine .pure ⟨rfl,?_⟩
  exists anU os gs R G A.in1 ((r.mono (Nat.le_refl _) (Nat.le_refl _):aah A (d+1) (u+3+1)).in1.mono (Nat.le_refl _) (by exact q70)) _ [] [] 0 rfl (fun J m=>nomatch m) hn hc (((aa0.sep (L:=[])).mpr (H1.keep (aaO hk tk))).pick [1,2,3,0,4,5,6] 7) fun s' ms' e1 e2 H'=>?_
  exact h s' _ ms' e1 e2 H'
 exact aa4 body.go (fun fin s' x=>by obtain⟨rfl,x⟩:=x; exact⟨afR _,x⟩) fun J J x=>x.elim
end
noncomputable def G8E:Expr:=(xP (asE (at' (aaa (D 8)) 4))).e
noncomputable def gE (e:Expr):Expr:=(xP e).e
noncomputable def gG (e:Expr):Comprehension:=(xP e).g
noncomputable def gS (e:Expr):Scope:=(xP e).c
noncomputable def gP (e:Expr):Pos:=(xP e).p
noncomputable abbrev G8:Expr:=GE (gE G8E) (gG G8E).target (gG G8E).iter (gS G8E) (gP G8E)
section
variable {w:World}{cenv:Env}
theorem ap7 {lv it:Addr}{vs:List VI}(F:aa8 cenv [".0", "var"] ["Multiset"]) (hco:cenv.scope.isCoroutine=false) :
  ∀ (n i:Nat),n+i=vs.length→∀ A,aah A 6 20→∀ R0' s0 s L vr,abq L→
   aa0 s (aa1 cenv.locals (aal [".0", "var"] [some (.ref it),vr])::aa5 w (aae [R0',aaQ lv vs]).fp (aae [R0',aaQ lv vs]).gp s0::abx it lv i::aaQ lv vs::L)→
   GP w A (.compLoop G8 0 (.ref it) .none cenv) [] ((model pw w).den (.compLoop G8 0 (.ref it) .none cenv)) (PR (geS lv vs) (vs.drop i) R0' () s0) (PY w 6 20 (geS lv vs) (vs.drop i) R0' () s0) s:=by
 intro n
 induction n with
 | zero=>
  intro i hi A r R0' s0 s L vr hL H
  have r':aah (A.over (.compLoop G8 0 (.ref it) .none cenv) []) 5 17:=aah.over2 (dd:=1) (uu:=3) r rfl rfl rfl
  have e:vs.drop i=[]:=List.drop_eq_nil_of_le (by exact q42 ‹_›)
  rw[e]
  exists afJ rfl rfl hco ?_,abF [_,_] r'.handled H (aaC (H.at [_,_,_])).isList (acq (List.getElem?_eq_none (by exact q42 ‹_›))) fun s H=>?_
  exact aro ⟨_,(),⟨fun J z=>z,trivial⟩,trivial,rfl,(((aa0.sep (L:=[_,_])).mpr (H.pick [0,3,1,2] 4)).pick [1,0] 2).turn ⟨fun J z=>z,hL⟩⟩
 | succ n ih=>
  intro i hi A r R0' s0 s L vr hL H
  have r':aah (A.over (.compLoop G8 0 (.ref it) .none cenv) []) 5 17:=aah.over2 (dd:=1) (uu:=3) r rfl rfl rfl
  have hlt:i<vs.length:=by exact q28 ‹_›
  have hv:vs[i]? = some vs[i]:=List.getElem?_eq_getElem hlt
  have e:vs.drop i=vs[i]::vs.drop (i+1):=List.drop_eq_getElem_cons hlt
  rw[e]
  exists afJ rfl rfl hco ?_,aaN [_,_] H (aaC (H.at [_,_,_])).isList (acY hv) fun s H=>?_,0,goS 1 F H rfl fun s H=>?_,0
  refine ael ?_
  exists aa3 ?_
  refine acF ?_
  exists dL 1 F H rfl ?_
  refine aeZ (r'.mono (by exact lb rfl) (by exact lb rfl)) H.bs (aca (H.at [_,_,_]) (List.mem_of_getElem? hv)) fun s kp=>?_
  replace H:=H.keep kp
  exists aa3 ?_,afK 0 0 F H (ajS _) (ah2 _) ?_
  refine apt (r'.mono (by exact lb rfl) (by exact lb rfl)) H.bs fun s m mk ha=>?_
  exists aa6 ?_
  replace H:=H.made mk
  refine⟨_,_,_,H,aam,fun s t H=>?_⟩
  intro gs2 hgs
  have H3:=(aa0.sep (L:=[_,_])).mpr (((aa0.sep (L:=[_,_])).mpr (H.pick [0,4,1,2,3,5] 6)).pick [2,3,0,1,4] 5)
  refine⟨_,_,(),⟨t,m,_,rfl,rfl,ha⟩,trivial,aaq.of ((((aa0.sep (L:=[_,_])).mpr (H.pick [0,4,1,2,3,5] 6)).pick [1,0] 2).freeK [] []) fun A' rA x' s3 HH=>?_,(((aa0.sep (L:=[_,_,_])).mpr (H3.pick [1,0,3,2] 4)).pick [1,0] 2).turn hL⟩
  exact hgs A' _ _ s3 (ih (i+1) (by exact q34 ‹_›) A' rA _ s3 s3 [] _ trivial (((aa0.sep (L:=[_,_])).mp (HH.pick [1,0,2] 3)).pick [0,2,1,3] 4))
theorem alh {lv it:Addr}{vs:List VI}(F:aa8 cenv [".0", "var"] ["Multiset"]) (hco:cenv.scope.isCoroutine=false) (hf:freeK (aae [aa1 cenv.locals (aal [".0", "var"] [some (.ref it),none]),abx it lv 0])) :
  aaq w 6 20 (geS lv vs) vs (.fresh (.compStart G8 0 (.ref it) .none cenv)) (aae [aa1 cenv.locals (aal [".0", "var"] [some (.ref it),none]),abx it lv 0]):=by
 refine aaq.of hf fun A r x s H=>?_
 have y:=ap7 (w:=w) (lv:=lv) (it:=it) (vs:=vs) F hco _ 0 (Nat.add_zero _) A r _ s s [] _ trivial (((aa0.sep (L:=[_,_])).mp (H.pick [1,0,2] 3)).pick [0,2,1,3] 4)
 exists ahR ?_ (.of (wpAny_pyIter_listiter (((aa0.sep (L:=[_,_])).mp (H.pick [1,0,2] 3)).at [_]) ?_))
 ·exact y
 ·exact y
end
end
set_option backward.match.sparseCases false
inductive afY where
 | dft (x:Str)
 | ms (cs:List Int)
noncomputable abbrev abD:=List (Option Str × afY)
noncomputable def aeu (l:List (Int × Int)):List Int:=[cnt l 0,cnt l 1,cnt l 2,cnt l 3]
noncomputable def ad7 (ms:List Ms):List (List Int):=ms.map fun m=>aeu m.abs
noncomputable def aej:List Int→Int
 | []=>0
 | a::r=>a+aej r
theorem af0 {l:List (Int × Int)}(h:aco l):tot l=aej (aeu l):=by
 induction l with
 | nil=>rfl
 | cons p r ih=>
  have hr:aco r:=⟨(List.nodup_cons.mp (by simpa using h.nd)).2,fun q m=>h.ks q (.tail _ m),fun q m=>h.pos q (.tail _ m)⟩
  have hp:=h.ks p (.head _)
  have hnot:∀ q∈r,q.1≠p.1:=fun q m e=>by
   have nd:=h.nd
   rw[List.map_cons,List.nodup_cons] at nd
   exact nd.1 (by rw[← e]; exact List.mem_map_of_mem m)
  have e0:cnt r p.1=0:=afC hnot
  have ih:=ih hr
  show p.2+tot r=_
  rw[ih]
  have k4:p.1=0∨p.1=1∨p.1=2∨p.1=3:=by exact q2 ‹_›
  unfold aeu aej aej aej aej aej
  show _=(if p.1=0 then p.2 else cnt r 0)+((if p.1=1 then p.2 else cnt r 1)+((if p.1=2 then p.2 else cnt r 2)+((if p.1=3 then p.2 else cnt r 3)+0)))
  rcases k4 with e | e | e | e<;>rw[e] at e0 ⊢<;>simp<;>lia
noncomputable def applyR (k:Int) (o:List Int) (S:List (List Int)):List (List Int):=List.zipWith (fun s c=>s.set k.toNat c) S o
noncomputable def applyU:List (Int × List Int)→List (List Int)→List (List Int)
 | [],S=>S
 | p::r,S=>applyU r (applyR p.1 p.2 S)
noncomputable def afF:List (List Int)→List (List (Int × List Int))→List (List (List Int))
 | _,[]=>[]
 | S,u::us=>applyU u S::afF (applyU u S) us
theorem alq {l:List (Int × Int)}{k c:Int}(h:aco l) (hk:0≤k∧k<4) (hc:0≤c):aeu (upd l k c)=(aeu l).set k.toNat c:=by
 have e:=aok h hc (k:=k)
 have k4:k=0∨k=1∨k=2∨k=3:=by exact q2 ‹_›
 unfold aeu
 simp only[e,e,e,e]
 rcases k4 with rfl | rfl | rfl | rfl<;>rfl
theorem ajD {xs:List Addr}{k:Int}{o:List Int}{ms ms':List Ms}(hk:0≤k∧k<4) (ho:∀ c∈o,0≤c) (hl:o.length=ms.length) (ok:adF xs ms) (h:aep k o o.length ms ms'):ad7 ms'=applyR k o (ad7 ms):=by
 unfold ad7 applyR
 apply List.ext_getElem
 ·simp[h.1,hl]
 ·intro i h1 h2
  simp only[List.length_map] at h1
  have h3:i<ms.length:=by rw[← h.1]; exact h1
  obtain⟨m',e1,e2,e3⟩:=h.2 i _ (List.getElem?_eq_getElem h3)
  rw[List.getElem?_eq_getElem h1] at e1
  have e1':=Option.some.inj e1
  simp only[List.getElem_map,List.getElem_zipWith]
  rw[e1',e3,if_pos (by exact q29 ‹_› ‹_›)]
  have e4:o.getD i 0=o[i]'(by exact q29 ‹_› ‹_›):=by rw[List.getD_eq_getElem?_getD,List.getElem?_eq_getElem (by exact q29 ‹_› ‹_›)]; rfl
  simp only[e4]
  exact alq (ok.2 _ (List.getElem_mem h3)) hk (ho _ (List.getElem_mem _))
noncomputable def uOk (n:Nat) (u:List (Int × List Int)):Prop:=∀ p∈u,(0≤p.1∧p.1<4)∧p.2.length=n∧∀ c∈p.2,0≤c∧c≤4
theorem ahW {xs:List Addr}:∀ {u:List (Int × List Int)}{ms ms':List Ms},uOk ms.length u→adF xs ms→ak5 u ms ms'→ad7 ms'=applyU u (ad7 ms)∧adF xs ms'∧ms'.length=ms.length:=by
 intro xX
 induction xX with
 | nil=>
  refine @fun ms ms' hu ok h=>?_
  have h':ms'=ms:=h
  subst h'
  exact⟨rfl,ok,rfl⟩
 | cons p r ih=>
  refine @fun ms ms' hu ok h=>?_
  obtain⟨m1,h1,h2⟩:=h
  obtain⟨q1,q2,q3⟩:=hu p (.head _)
  have e:=ajD q1 (fun c m=>(q3 c m).1) q2 ok h1
  have ok1:=h1.ok q1 ok
  obtain⟨a,b,c⟩:=ih (by rw[h1.1]; exact fun p' m=>hu p' (.tail _ m)) ok1 h2
  exact⟨by rw[a,e]; rfl,b,by rw[c,h1.1]⟩
noncomputable def bdS (n:Nat) (S:List (List Int)):Prop:=S.length=n∧∀ s∈S,s.length=4∧∀ c∈s,0≤c∧c≤4
theorem ahY {n:Nat}{k:Int}{o:List Int}{S:List (List Int)}(h:bdS n S) (hl:o.length=n) (ho:∀ c∈o,0≤c∧c≤4):bdS n (applyR k o S):=by
 refine⟨by unfold applyR; simp only[List.length_zipWith,h.1,hl,Nat.min_self],fun s m=>?_⟩
 unfold applyR at m
 obtain⟨i,hi,e⟩:=List.mem_iff_getElem.mp m
 rw[List.getElem_zipWith] at e
 subst e
 simp only[List.length_zipWith] at hi
 have hs:=h.2 _ (List.getElem_mem (l:=S) (n:=i) (by grind))
 refine⟨by rw[List.length_set]; exact hs.1,fun c mc=>?_⟩
 rcases List.mem_or_eq_of_mem_set mc with mc | rfl
 ·exact hs.2 c mc
 ·exact ho _ (List.getElem_mem _)
theorem aiB {n:Nat}:∀ {u:List (Int × List Int)}{S:List (List Int)},uOk n u→bdS n S→bdS n (applyU u S):=by
 intro xX
 induction xX with
 | nil=>exact @fun S J h=>h
 | cons p r ih=>exact @fun S hu h=>ih (fun p' m=>hu p' (.tail _ m)) (ahY h (hu p (.head _)).2.1 (hu p (.head _)).2.2)
theorem an9:∀ {s:List Int},(∀ c∈s,0≤c∧c≤4)→0≤aej s∧aej s≤4 * s.length:=by
 intro xX
 induction xX with
 | nil=>exact @fun J=>⟨Int.le_refl 0,Int.le_refl 0⟩
 | cons a r ih=>
  refine @fun h=>?_
  have h1:=h a (.head _)
  have h2:=ih fun c m=>h c (.tail _ m)
  show 0≤a+aej r∧a+aej r≤4 * ((r.length+1:Nat):Int)
  lia
theorem bd2:∀ n∈List.range 5,∀ a∈[1,2,3],∀ b∈[1,2,3],∀ o∈afq a b n,∀ c∈o,0≤c∧c≤4:=by decide +kernel
theorem bd3:∀ n∈List.range 5,∀ a∈[1,2,3],∀ b∈[1,2,3],∀ c∈[1,2,3],∀ o∈akI a b c n,∀ x∈o,0≤x∧x≤4:=by decide +kernel
theorem ao3 {C:Cx}(ok:C.Ok) {n:Nat}(hn:n∈List.range 5):∀ o∈agf (C.vs.map VI.count) n,∀ c∈o,0≤c∧c≤4:=by
 obtain⟨lv,vs,st,Fs,xs⟩:=C
 have l23:=ok.l23
 have cs:=ok.cs
 dsimp only at *
 match vs,l23,cs with
 | [v1,v2],_,cs=>exact bd2 n hn _ (cs v1 (by simp)) _ (cs v2 (by simp))
 | [v1,v2,v3],_,cs=>exact bd3 n hn _ (cs v1 (by simp)) _ (cs v2 (by simp)) _ (cs v3 (by simp))
 | [],l23,_=>simp at l23
 | [_],l23,_=>simp at l23
 | _::_::_::_::_,l23,_=>simp at l23
theorem ad2 {α β:Type}{f1 f:α→β}{os:List α}{b:β}(h:b∈abz f1 f os):(∃ o∈os,b=f1 o)∨∃ o∈os,b=f o:=by
 cases os with
 | nil=>exact nomatch h
 | cons o os=>
  rcases List.mem_cons.mp h with rfl | h
  ·exact .inl ⟨o,.head _,rfl⟩
  ·obtain⟨x,m,rfl⟩:=List.mem_map.mp h
   exact .inr ⟨x,.tail _ m,rfl⟩
theorem alM {n:Nat}:∀ {ls:List (Int × List (List Int))},(∀ p∈ls,(0≤p.1∧p.1<4)∧∀ o∈p.2,o.length=n∧∀ c∈o,0≤c∧c≤4)→∀ u∈ab1 ls,uOk n u:=by
 intro xX
 induction xX with
 | nil=>
  refine @fun J u m=>?_
  rw[List.mem_singleton.mp m]
  exact fun p m=>nomatch m
 | cons p ls ih=>
  refine @fun h u m=>?_
  have ih:=ih fun q m=>h q (.tail _ m)
  obtain⟨o,mo,m⟩:=List.mem_flatMap.mp m
  rcases ad2 m with⟨u',mu,rfl⟩ | ⟨u',mu,e⟩
  ·intro q mq
   rcases List.mem_cons.mp mq with rfl | mq
   ·exact⟨(h p (.head _)).1,((h p (.head _)).2 o mo).1,((h p (.head _)).2 o mo).2⟩
   ·exact ih u' mu q mq
  ·rw[e]; exact ih u' mu
noncomputable def VI.low (v:VI) (s:List Int):Bool:=!(v.dflt.isSome&&aej s==0)&&decide (aej s<v.min)
noncomputable def aaX (v:VI) (s:List Int):afY:=match v.dflt with | some d=>if aej s=0 then .dft d else .ms s | none=>.ms s
noncomputable def abI (vs:List VI) (S:List (List Int)):Option abD:=
 if (vs.zip S).any (fun p=>p.1.low p.2) then none else some (((vs.zip S).map fun p=>(p.1.name,aaX p.1 p.2)).filter fun p=>p.1.isSome)
noncomputable def ace (h:Heap):afY→Value→Prop
 | .dft d,val=>∃ t,val=.str d t
 | .ms cs,val=>∃ m:Ms,val=.ref m.x∧afS m h∧aco m.abs∧aeu m.abs=cs
noncomputable def ac6 (h:Heap):abD→List (Option Str × Value)→Prop
 | [],[]=>True
 | p::o,q::kvs=>p.1=q.1∧ace h p.2 q.2∧ac6 h o kvs
 | _,_=>False
theorem ac6.filter {h:Heap}:∀ {o:abD}{kvs:List (Option Str × Value)},ac6 h o kvs→ac6 h (o.filter fun p=>p.1.isSome) (kvs.filter fun p=>p.1.isSome)
 | [],[],_=>trivial
 | p::o,q::kvs,x=>by
  obtain⟨e,g,r⟩:=x
  have ih:=ac6.filter r
  by_cases hp:p.1.isSome=true
  ·rw[List.filter_cons_of_pos (by simpa using hp),List.filter_cons_of_pos (by rw[← e]; simpa using hp)]
   exact⟨e,g,ih⟩
  ·rw[List.filter_cons_of_neg (by simpa using hp),List.filter_cons_of_neg (by rw[← e]; simpa using hp)]
   exact ih
 | [],_::_,x=>x.elim
 | _::_,[],x=>x.elim
theorem ac6.of_get {h:Heap}:∀ {o:abD}{kvs:List (Option Str × Value)},o.length=kvs.length→(∀ (j:Nat) p,o[j]? = some p→∃ q,kvs[j]? = some q∧p.1=q.1∧ace h p.2 q.2)→ac6 h o kvs
 | [],[],_,_=>trivial
 | p::o,q::kvs,hl,x=>by
  obtain⟨q',e,a,b⟩:=x 0 p rfl
  cases e
  exact⟨a,b,ac6.of_get (by simpa using hl) fun j p' e=>x (j+1) p' (by simpa using e)⟩
 | [],_::_,hl,_=>by simp at hl
 | _::_,[],hl,_=>by simp at hl
set_option backward.match.sparseCases true
section
open Builtin Builtin.ObjectAttr
noncomputable def ae6 (v:VI) (m:Ms):Value:=match v.dflt with | some x=>if tot m.abs=0 then .str x v.td else .ref m.x | none=>.ref m.x
structure KvI (vs:List VI) (ms:List Ms) (i:Nat) (kvs:List (Option Str × Value)):Prop where
 ks:kvs.map (·.1)=vs.map VI.name
 at':∀ (j:Nat) v m,vs[j]? = some v→ms[j]? = some m→kvs[j]? = some (v.name,if j<i then ae6 v m else .ref m.x)
theorem ae7 {kvs:List (Option Str × Value)}{j:Nat}{n:Option Str}{x:Value}(nd:(kvs.map (·.1)).Nodup) (h:kvs[j]? = some (n,x)):valueAt kvs n=some x:=by
 have e:kvs=(kvs.map (·.1)).zip (kvs.map (·.2)):=by
  rw[List.zip_map']
  simp
 rw[e]
 exact adO (j:=j) nd (by simp[h]) (by simp[h])
theorem aij {kvs:List (Option Str × Value)}{j:Nat}{n:Option Str}{x y:Value}(nd:(kvs.map (·.1)).Nodup) (h:kvs[j]? = some (n,x)):stored kvs n y=kvs.set j (n,y):=by
 unfold stored
 rw[if_pos (List.any_eq_true.mpr ⟨(n,x),List.mem_of_getElem? h,by simp⟩)]
 apply List.ext_getElem?
 intro i
 rw[List.getElem?_map]
 by_cases e:j=i
 ·subst e
  rw[List.getElem?_set_self (List.getElem?_eq_some_iff.mp h).1,h]
  simp
 ·rw[List.getElem?_set_ne e]
  cases hi:kvs[i]? with
  | none=>rfl
  | some q=>
   have hne:q.1≠n:=fun e2=>by
    have hi':=(List.getElem?_eq_some_iff.mp hi).1
    have h1:(kvs.map (·.1))[i]'(by simpa using hi')=n:=by
     have:=(List.getElem?_eq_some_iff.mp hi).2
     simp only[List.getElem_map,this,e2]
    have h2:(kvs.map (·.1))[j]'(by simpa using ((List.getElem?_eq_some_iff.mp h).1))=n:=by
     have:=(List.getElem?_eq_some_iff.mp h).2
     simp only[List.getElem_map,this]
    exact e ((List.getElem_inj nd).mp (h2.trans h1.symm))
   simp[hne]
theorem KvI.zero {vs:List VI}{ms:List Ms}(hl:ms.length=vs.length):KvI vs ms 0 (ach vs ms):=by
 refine⟨by unfold ach; exact List.map_fst_zip (by simp[hl]),fun j v m h1 h2=>?_⟩
 exact List.getElem?_zip_eq_some.mpr ⟨by simp[h1],by simp[h2]⟩
section
variable {w:World}{A:Around}{s s0:Shared}{env:Env}{L:List Res}{fp:Addr→Prop}{gp:Nat→Prop}{R₁:Res}
theorem ajQ {m:Ms}{Q:Value→Shared→Prop}(r:aah A 1 4) (H:aa0 s (R₁::aa5 w fp gp s0::L)) (hm:afS m s.heap) (hb:0≤tot m.abs∧tot m.abs≤100) (h:∀ s' t,aa0 s' (R₁::aa5 w fp gp s0::L)→Q (.int (tot m.abs) t) s'):WP w A (call (.builtin "len") [.ref m.x]) Q s:=by
 obtain⟨od,I⟩:=ahl hm
 exists au3 H.bs.frag I (adZ _).len (adZ _).f104 (arm r.in1 H.bs hm fun s' t k=>?_)
 exact⟨⟨hb.1,by omega⟩,h _ _ ((H.keep k).keep (aab (s'.toks+1)))⟩
theorem asS {vs:List VI}{ms:List Ms}{kvs:List (Option Str × Value)}{d it lv:Addr}{i:Nat}{v:VI}{m:Ms}{v0 v1 v2 v3 v4 v5 v7:Option Value}{p1 p2 p3 p4 p5 p6:Pos}{Q:Value→Shared→Prop}(r:aah A 2 10) (F:aa8 env aaZ agJ)
  (H:aa0 s (aa1 env.locals (aal aaZ [v0,v1,v2,v3,v4,v5,some (.ref d),v7,some (.ref v.a)])::aa5 w fp gp s0::ab7 w d kvs::abx it lv i::acs ms::aaQ lv vs::L)) (hv:v∈vs) (hm:m∈ms) (hval:valueAt kvs v.name=some (.ref m.x)) (hb:0≤tot m.abs∧tot m.abs≤100)
  (h:∀ s' t,aa0 s' (aa1 env.locals (aal aaZ [v0,v1,v2,v3,v4,v5,some (.ref d),v7,some (.ref v.a)])::aa5 w fp gp s0::ab7 w d kvs::abx it lv i::acs ms::aaQ lv vs::L)→Q (.int (tot m.abs) t) s') :
  WP w A (eval (.Call (.Name "len" p1) [.Subscript (.Name "subst" p2) (.Attribute (.Name "var" p3) "name" p4) p5] [] p6) env) Q s:=by
 exists 0,aaj 0 2 F H ?_,aa3 ?_,aaw ?_,dL 6 F H rfl ?_,acF ?_,dL 8 F H rfl ?_
 refine aeZ r H.bs (aca (H.at [_,_,_,_,_]) hv) fun s kp=>?_
 replace H:=H.keep kp
 exists ao9 (k:=v.name) (v:=.ref m.x) (H.at [_,_]) (ad8 _ _) hval ?_ (by with_unfolding_all rfl)
 exact aa6 (ajQ (r.mono (by exact lb rfl) (by exact lb rfl)) (H.keep (aab (s.toks+1))) (ahx (aaf.mem' ((H.keep (aab (s.toks+1))).at (R:=acs ms) [_,_,_,_]) _ (List.mem_map_of_mem hm))) hb h)
end
theorem au6 {w:World}{A:Around}{s:Shared}{env:Env}{pos:Pos}{Q:Flow→Shared→Prop}(h:Q .brk s):WP w A (exec (.Break pos) env) Q s:=by
 simp only[arm_exec_Break]
 exact .bind (.stand (.pure h))
noncomputable def PO:Stmt:=at' (aaa (D 8)) 5
noncomputable def PI:Stmt:=at' (adU PO) 1
noncomputable def aee (v:VI) (m:Ms):Prop:=¬ (v.dflt.isSome=true∧tot m.abs=0)∧tot m.abs<v.min
section
variable {w:World}{A:Around}{s s0:Shared}{env:Env}{L:List Res}{fp:Addr→Prop}{gp:Nat→Prop}{R₁:Res}
theorem KvI.step {vs:List VI}{ms:List Ms}{i:Nat}{kvs kvs':List (Option Str × Value)}{v:VI}{m:Ms}(K:KvI vs ms i kvs) (hv:vs[i]? = some v) (hm:ms[i]? = some m) (e:kvs'=kvs.set i (v.name,ae6 v m)):KvI vs ms (i+1) kvs':=by
 have hlt:=(List.getElem?_eq_some_iff.mp (K.at' i v m hv hm)).1
 subst e
 constructor
 ·rw[← K.ks]
  apply List.ext_getElem?
  intro j
  simp only[List.getElem?_map,List.getElem?_map]
  by_cases e:i=j
  ·subst e
   rw[List.getElem?_set_self hlt,(K.at' i v m hv hm)]; rfl
  ·rw[List.getElem?_set_ne e]
 ·intro j v' m' h1 h2
  by_cases e:i=j
  ·subst e
   rw[hv] at h1; cases h1
   rw[hm] at h2; cases h2
   rw[List.getElem?_set_self hlt,if_pos (Nat.lt_succ_self _)]
  ·rw[List.getElem?_set_ne e,K.at' j v' m' h1 h2]
   by_cases e2:j<i
   ·rw[if_pos e2,if_pos (by exact q60 ‹_›)]
   ·rw[if_neg e2,if_neg (by exact q47 ‹_› ‹_›)]
theorem KvI.same {vs:List VI}{ms:List Ms}{i:Nat}{kvs:List (Option Str × Value)}{v:VI}{m:Ms}(K:KvI vs ms i kvs) (hv:vs[i]? = some v) (hm:ms[i]? = some m) (e:ae6 v m=.ref m.x):KvI vs ms (i+1) kvs:=by
 refine K.step hv hm ?_
 have h0:=K.at' i v m hv hm
 rw[if_neg (Nat.lt_irrefl _)] at h0
 have hlt:=(List.getElem?_eq_some_iff.mp h0).1
 rw[e]
 apply List.ext_getElem?
 intro j
 by_cases e:i=j
 ·subst e
  rw[List.getElem?_set_self hlt,h0]
 ·rw[List.getElem?_set_ne e]
inductive aoj (vs:List VI) (ms:List Ms) (env:Env) (v0:Option Value) (lv:Addr) (v2 v3 v4 v5:Option Value) (d:Addr) (w:World) (fp:Addr→Prop) (gp:Nat→Prop) (s0:Shared) (it:Addr) (L:List Res) (n:Nat) (s':Shared):Prop
 | mk (i v8 kvs):n=vs.length - i→i≤vs.length→(∀ (j:Nat) v m,j<i→vs[j]? = some v→ms[j]? = some m→¬ aee v m)→KvI vs ms i kvs→aa0 s' (aa1 env.locals (aal aaZ [v0,some (.ref lv),v2,v3,v4,v5,some (.ref d),some (.bool true),v8])::aa5 w fp gp s0::ab7 w d kvs::abx it lv i::acs ms::aaQ lv vs::L)→aoj vs ms env v0 lv v2 v3 v4 v5 d w fp gp s0 it L n s'
theorem alE {vs:List VI}{ms:List Ms}{kvs0:List (Option Str × Value)}{d lv:Addr}{v0 v2 v3 v4 v5 v8:Option Value}{Q:Flow→Shared→Prop}(r:aah A 2 10) (F:aa8 env aaZ agJ) (hl:ms.length=vs.length) (nd:(vs.map VI.name).Nodup) (hlen:vs.length≤100)
  (hb:∀ m∈ms,0≤tot m.abs∧tot m.abs≤100) (K0:KvI vs ms 0 kvs0)
  (H:aa0 s (aa1 env.locals (aal aaZ [v0,some (.ref lv),v2,v3,v4,v5,some (.ref d),some (.bool true),v8])::aa5 w fp gp s0::ab7 w d kvs0::acs ms::aaQ lv vs::L))
  (h:∀ s' b kvs' v8,aa0 s' (aa1 env.locals (aal aaZ [v0,some (.ref lv),v2,v3,v4,v5,some (.ref d),some (.bool b),v8])::aa5 w fp gp s0::ab7 w d kvs'::acs ms::aaQ lv vs::L)→
   (b=true→(∀ (j:Nat) v m,vs[j]? = some v→ms[j]? = some m→¬ aee v m)∧KvI vs ms vs.length kvs')→(b=false→∃ (j:Nat) (v:VI) (m:Ms),vs[j]? = some v∧ms[j]? = some m∧aee v m)→Q .next s'):WP w A (exec PI env) Q s:=by
 exists aem ?_,dL 1 F H rfl ?_,aaM (aaC (H.at [_,_,_,_])).isList H fun s it H=>?_
 replace H:=H.pick [0,1,3,2,4,5] 6
 exists abB (I:=aoj vs ms env v0 lv v2 v3 v4 v5 d w fp gp s0 it L) (fun n s' hI=>?_) _ ⟨0,v8,kvs0,rfl,Nat.zero_le _,fun j v m hj=>absurd hj (Nat.not_lt_zero _),K0,H⟩
 obtain⟨i,v8,kvs,en,hi,hno,K,H⟩:=hI
 cases hr:vs[i]? with
 | none=>
  exists abF [_,_,_] r.handled H (aaC (H.at [_,_,_,_,_])).isList (acq hr) fun s₂ H2=>?_
  have ei:i=vs.length:=by
   have:=List.getElem?_eq_none_iff.mp hr
   exact q20 ‹_› ‹_›
  rw[ei] at hno K
  exact h s₂ true kvs v8 (aa0.cut 1 (H2.pick [3,0,1,2] 4)) (fun J=>⟨fun j v m h1 h2=>hno j v m (List.getElem?_eq_some_iff.mp h1).1 h1 h2,K⟩) (fun e=>nomatch e)
 | some v=>
  have hlt:=(List.getElem?_eq_some_iff.mp hr).1
  obtain⟨m,hm⟩:∃ m,ms[i]? = some m:=⟨ms[i]'(by exact q29 ‹_› ‹_›),List.getElem?_eq_getElem _⟩
  have hmm:=List.mem_of_getElem? hm
  have hvm:=List.mem_of_getElem? hr
  have hbm:=hb m hmm
  have hkv:=K.at' i v m hr hm
  rw[if_neg (Nat.lt_irrefl _)] at hkv
  have ndk:(kvs.map (·.1)).Nodup:=by rw[K.ks]; exact nd
  have hval:=ae7 ndk hkv
  have hklen:kvs.length≤1000:=by
   have:(kvs.map (·.1)).length≤1000:=by rw[K.ks,List.length_map]; exact q75 ‹_›
   simpa using this
  exists aaN [_,_,_] H (aaC (H.at [_,_,_,_,_])).isList (acY hr) fun s₂ H=>?_,goS 8 F H rfl fun s₂ H=>?_
  have orelse:∀ {s₂:Shared} {Q':Flow→Shared→Prop},aa0 s₂ (aa1 env.locals (aal aaZ [v0,some (.ref lv),v2,v3,v4,v5,some (.ref d),some (.bool true),some (.ref v.a)])::aa5 w fp gp s0::ab7 w d kvs::abx it lv (i+1)::acs ms::aaQ lv vs::L)→¬ (v.dflt.isSome=true∧tot m.abs=0)→
    (∀ s',aa0 s' (aa1 env.locals (aal aaZ [v0,some (.ref lv),v2,v3,v4,v5,some (.ref d),some (.bool true),some (.ref v.a)])::aa5 w fp gp s0::ab7 w d kvs::abx it lv (i+1)::acs ms::aaQ lv vs::L)→¬ aee v m→Q' .next s')→
    (∀ s',aa0 s' (aa1 env.locals (aal aaZ [v0,some (.ref lv),v2,v3,v4,v5,some (.ref d),some (.bool false),some (.ref v.a)])::aa5 w fp gp s0::ab7 w d kvs::abx it lv (i+1)::acs ms::aaQ lv vs::L)→aee v m→Q' .brk s')→
    WP w A (execs (ifE (at' (adU PI) 0)) env) Q' s₂:=fun {s₂ Q'} H hne hn hb=>by
   exists 0,aa7 ?_,dIf ?_,abS ?_
   refine asS r F H hvm hmm hval hbm fun s t H=>?_
   exists 0,acF ?_,dL 8 F H rfl ?_
   refine aqe r H.bs (aca (H.at [_,_,_,_,_]) hvm) fun s kp=>?_
   replace H:=H.keep kp
   exists dLt ?_,tB ?_
   by_cases hlow:tot m.abs<v.min
   ·refine ifP ((by simpa using hlow)) ?_
    exists aa7 ?_
    refine ac8 ?_
    exists akL ?_,sL 7 F H rfl fun s H=>?_
    exact aa7 (au6 (hb s H ⟨hne,hlow⟩))
   ·refine ifN ((fun x=>hlow (of_decide_eq_true x))) ?_
    exact aaL (aaL (hn s H fun hx=>hlow hx.2))
  have fin:∀ s',aa0 s' (aa1 env.locals (aal aaZ [v0,some (.ref lv),v2,v3,v4,v5,some (.ref d),some (.bool false),some (.ref v.a)])::aa5 w fp gp s0::ab7 w d kvs::abx it lv (i+1)::acs ms::aaQ lv vs::L)→aee v m→Q .next s':=fun s' H2 hx=>
   h s' false kvs _ (aa0.cut 1 (H2.pick [3,0,1,2] 4)) (fun e=>nomatch e) fun J=>⟨i,v,m,hr,hm,hx⟩
  have nxt:∀ s',aa0 s' (aa1 env.locals (aal aaZ [v0,some (.ref lv),v2,v3,v4,v5,some (.ref d),some (.bool true),some (.ref v.a)])::aa5 w fp gp s0::ab7 w d kvs::abx it lv (i+1)::acs ms::aaQ lv vs::L)→¬ aee v m→ae6 v m=.ref m.x→Nxt (aoj vs ms env v0 lv v2 v3 v4 v5 d w fp gp s0 it L) n s':=fun s' H2 hx ev=>
   ⟨vs.length - (i+1),by exact q1 ‹_› ‹_›,i+1,_,kvs,rfl,hlt,fun j v' m' hj h1 h2=>by
    rcases Nat.lt_succ_iff_lt_or_eq.mp hj with hj | rfl
    ·exact hno j v' m' hj h1 h2
    ·rw[hr] at h1; cases h1
     rw[hm] at h2; cases h2
     exact hx,K.same hr hm ev,H2⟩
  exists aa7 ?_,dIf ?_,ahQ ?_,amq ?_,abS ?_,acF ?_,dL 8 F H rfl ?_
  refine akw r H.bs (aca (H.at [_,_,_,_,_]) hvm) fun s kp=>?_
  replace H:=H.keep kp
  exists ad5 ?_
  refine .of ?_
  refine isNot_none ?_
  exists tB ?_
  cases hd:v.dflt with
  | none=>
   have e1:(!(acb none v.td==Value.none))=false:=rfl
   show WP w A (execs (ifE (at' (adU PI) 0)) env) _ _
   exact orelse H (fun hx=>by rw[hd] at hx; exact absurd hx.1 (by decide)) (fun s' H2 hx=>aaL (nxt s' H2 hx (by unfold ae6; rw[hd]))) fin
  | some x=>
   have e1:(!(acb (some x) v.td==Value.none))=true:=rfl
   exists amq ?_,abS ?_
   refine asS r F H hvm hmm hval hbm fun s t H=>?_
   exists 0
   exists aaW H fun s t' H=>?_,tEq ?_
   by_cases hz:tot m.abs=0
   ·have e2:(tot m.abs==0)=true:=by simpa using hz
    rw[e2,if_pos rfl]
    exists agG ?_
    refine ifP (rfl) ?_
    exists aa7 ?_,adm ?_
    refine acF ?_
    exists dL 8 F H rfl ?_
    refine akw r H.bs (aca (H.at [_,_,_,_,_]) hvm) fun s kp=>?_
    replace H:=H.keep kp
    exists dL 6 F H rfl ?_
    refine acF ?_
    exists dL 8 F H rfl ?_
    refine aeZ r H.bs (aca (H.at [_,_,_,_,_]) hvm) fun s kp=>?_
    replace H:=H.keep kp
    exists arh (k:=v.name) [_,_] H (ad8 _ _) hklen fun s H=>?_,aaL ?_,aaL ?_
    simp only[hd] at H
    have ev:ae6 v m=.str x v.td:=by unfold ae6; rw[hd]; exact if_pos hz
    refine⟨vs.length - (i+1),by exact q1 ‹_› ‹_›,i+1,_,_,rfl,hlt,fun j v' m' hj h1 h2=>?_,K.step hr hm ?_,H⟩
    ·rcases Nat.lt_succ_iff_lt_or_eq.mp hj with hj | rfl
     ·exact hno j v' m' hj h1 h2
     ·rw[hr] at h1; cases h1
      rw[hm] at h2; cases h2
      exact fun hx=>hx.1 ⟨by rw[hd]; rfl,hz⟩
    ·rw[aij ndk hkv,ev]; rfl
   ·have e2:(tot m.abs==0)=false:=by simpa using hz
    rw[e2,if_neg (by decide)]
    show WP w A (execs (ifE (at' (adU PI) 0)) env) _ _
    exact orelse H (fun hx=>hz hx.2) (fun s' H2 hx=>aaL (nxt s' H2 hx (by unfold ae6; rw[hd]; exact if_neg hz))) fin
end
theorem aa0.fin2 {s:Shared}{O M:Res}{L:List Res}(H:aa0 s (O::M::L)):aa0 s [O,aae [aae L,M]]:=by
 have h1:aa0 s (L++[O,M]):=H.perm (List.perm_append_comm (l₁:=[O,M]) (l₂:=L))
 have h2:aa0 s (aae L::[O,M]):=aa0.sep.mpr h1
 have h3:aa0 s ([aae L,M]++[O]):=h2.pick [0,2,1] 3
 exact (aa0.sep.mpr h3).pick [1,0] 2
theorem aa0.foldEnd {s:Shared}(M:List Res) {L:List Res}(H:aa0 s (M++L)):aa0 s (aae L::M):=aa0.sep.mpr (H.perm List.perm_append_comm)
structure as9 (h:Heap):Prop where
 a:∃ ps,h.get? 268=some { cls:=.none,data:=.fields ps }
 b:∃ ps,h.get? 280=some { cls:=.none,data:=.fields ps }
noncomputable def ar0 (R:Res):Prop:=∀ s:Shared,R.P s→as9 s.heap
noncomputable def aqO (L:List Res):Prop:=∀ s:Shared,aaf s L→∃ ps,s.heap.get? 280=some { cls:=.none,data:=.fields ps }
theorem aqO.cons {R:Res}{L:List Res}(h:aqO L):aqO (R::L):=fun s hs=>h s hs.2.2
theorem aj6 {st:Option Addr}{s:Shared}(h:(aat st).P s):∃ ps,s.heap.get? 268=some { cls:=.none,data:=.fields ps }:=by
 cases st with
 | none=>exact⟨_,h⟩
 | some c=>exact⟨_,aaf.mem' (L:=[plR 268 (al8 c),aiP c amz]) h _ (.head _)⟩
noncomputable def ar1 (w:World) (mv:Ms) (E:Res→Prop):abi abD Unit where
 out:=fun J J J J J=>True
 Sh:=fun J=>msR mv
 view:=fun o v R' RY=>∃ d kvs,v=.ref d∧RY=ab7 w d kvs∧kvs.length≤3∧(kvs.map (·.1)).Nodup∧∀ s₁:Shared,R'.P s₁→(msR mv).P s₁→ac6 s₁.heap o kvs
 endR:=E
noncomputable abbrev amL (w:World) (mv:Ms):abi abD Unit:=ar1 w mv fun J=>True
noncomputable abbrev akC (w:World) (mv:Ms):abi abD Unit:=ar1 w mv ar0
theorem amM {v:VI}{m:Ms}(hn:aco m.abs):aee v m↔v.low (aeu m.abs)=true:=by
 unfold aee VI.low
 rw[af0 hn]
 cases v.dflt<;>simp
theorem aju {h:Heap}{v:VI}{m:Ms}(hn:aco m.abs) (hm:afS m h):ace h (aaX v (aeu m.abs)) (ae6 v m):=by
 unfold aaX ae6
 rw[← af0 hn]
 cases v.dflt with
 | none=>exact⟨m,rfl,hm,hn,rfl⟩
 | some x=>
  dsimp only
  split
  ·exact⟨v.td,rfl⟩
  ·exact⟨m,rfl,hm,hn,rfl⟩
theorem aiC {h:Heap}{vs:List VI}{ms:List Ms}{kvs:List (Option Str × Value)}(hl:ms.length=vs.length) (hn:∀ m∈ms,aco m.abs) (hm:∀ m∈ms,afS m h) (K:KvI vs ms vs.length kvs):ac6 h ((vs.zip (ad7 ms)).map fun p=>(p.1.name,aaX p.1 p.2)) kvs:=by
 have hlen:kvs.length=vs.length:=by have:=congrArg List.length K.ks; simpa using this
 refine ac6.of_get (by simp[ad7,hl,hlen]) fun j p e=>?_
 rw[List.getElem?_map] at e
 cases hz:(vs.zip (ad7 ms))[j]? with
 | none=>rw[hz] at e; cases e
 | some q=>
  rw[hz] at e
  have e':=Option.some.inj e
  obtain⟨h1,h2⟩:=List.getElem?_zip_eq_some.mp hz
  unfold ad7 at h2
  rw[List.getElem?_map] at h2
  cases hmj:ms[j]? with
  | none=>rw[hmj] at h2; cases h2
  | some m=>
   rw[hmj] at h2
   have h2':aeu m.abs=q.2:=Option.some.inj h2
   have k:=K.at' j q.1 m h1 hmj
   rw[if_pos (List.getElem?_eq_some_iff.mp h1).1] at k
   refine⟨_,k,?_,?_⟩
   ·rw[← e']
   ·rw[← e']
    show ace h (aaX q.1 q.2) (ae6 q.1 m)
    exact (h2')▸(aju (hn m (List.mem_of_getElem? hmj)) (hm m (List.mem_of_getElem? hmj)))
theorem alG {vs:List VI}{ms:List Ms}{j:Nat}{v:VI}{m:Ms}(hn:∀ m∈ms,aco m.abs) (h1:vs[j]? = some v) (h2:ms[j]? = some m) (h:aee v m):abI vs (ad7 ms)=none:=by
 unfold abI
 rw[if_pos (List.any_eq_true.mpr ⟨(v,aeu m.abs),List.mem_of_getElem? (i:=j) (List.getElem?_zip_eq_some.mpr ⟨h1,by unfold ad7; simp[h2]⟩),(amM (hn m (List.mem_of_getElem? h2))).mp h⟩)]
theorem anD {vs:List VI}{ms:List Ms}(hn:∀ m∈ms,aco m.abs) (h:∀ (j:Nat) v m,vs[j]? = some v→ms[j]? = some m→¬ aee v m):abI vs (ad7 ms)=some (((vs.zip (ad7 ms)).map fun p=>(p.1.name,aaX p.1 p.2)).filter fun p=>p.1.isSome):=by
 unfold abI
 rw[if_neg]
 intro hx
 obtain⟨q,mq,hq⟩:=List.any_eq_true.mp hx
 obtain⟨j,hj⟩:=List.mem_iff_getElem?.mp mq
 obtain⟨h1,h2⟩:=List.getElem?_zip_eq_some.mp hj
 unfold ad7 at h2
 rw[List.getElem?_map] at h2
 cases hmj:ms[j]? with
 | none=>rw[hmj] at h2; cases h2
 | some m=>
  rw[hmj] at h2
  have h2':aeu m.abs=q.2:=Option.some.inj h2
  exact h j q.1 m h1 hmj ((amM (hn m (List.mem_of_getElem? hmj))).mpr (by rw[h2']; exact hq))
theorem atU {w:World}{A:Around}{s:Shared}{env:Env}{o i:Expr}{p pos:Pos}{Q:Flow→Shared→Prop}(h:WP w A (eval o env) (fun ov s₁=>WP w A (eval i env) (fun iv s₂=>WP w A (delItem ov iv) (fun J=>Q .next) s₂) s₁) s):WP w A (exec (.Delete [.Subscript o i p] pos) env) Q s:=by
 exact .bind (.stand (.bind (.bind (.bind (h.mono fun ov s₁ x=>.bind (.hold (x.mono fun iv s₂ x=>.bind (.stand (.bind (.hold (x.mono fun J s3 x=>.release (.pure (.pure x)))))))))))))
section
variable {w:World}{env:Env}{s:Shared}{L:List Res}
theorem aoC {C:Cx}{ms:List Ms}(H:aa0 s (C.Sh ms::L)):adF C.xs ms∧aa0 s (acs ms::aaQ C.lv C.vs::aat C.st::C.FsR::L):=by
 have h1:aa0 s (acs ms::agT (adF C.xs ms)::C.Fx::L):=(aa0.sep (L:=[_,_,_])).mp H
 refine⟨h1.at [_],?_⟩
 have h2:=(aa0.sep (L:=[_,_,_])).mp (aa0.cut 1 (h1.pick [1,2,0] 3))
 exact h2.pick [3,0,1,2] 4
theorem amu {C:Cx}{ms:List Ms}(ok:adF C.xs ms) (H:aa0 s (acs ms::aaQ C.lv C.vs::aat C.st::C.FsR::L)):aa0 s (C.Sh ms::L):=by
 have h1:aa0 s (C.Fx::acs ms::L):=(aa0.sep (L:=[_,_,_])).mpr (H.pick [1,2,3,0] 4)
 exact (aa0.sep (L:=[_,_,_])).mpr ((aa0.pure ok h1).pick [2,0,1] 3)
theorem apn (C:Cx):∀ g,C.FsR.gp g→False:=fun g ⟨R,m,x⟩=>by
 obtain⟨F,_,rfl⟩:=List.mem_map.mp m
 exact F.R_gp C.lv C.vs g x
theorem aiW (ms:List Ms):∀ g,(acs ms).gp g→False:=fun g ⟨R,m,x⟩=>by
 obtain⟨F,_,rfl⟩:=List.mem_map.mp m
 obtain⟨R,m,x⟩:=x
 simp only[List.mem_cons,List.not_mem_nil,or_false] at m
 rcases m with rfl | rfl | rfl | rfl
 ·exact x
 ·exact x
 ·exact x
 ·obtain⟨R,m,x⟩:=x
  obtain⟨r,_,rfl⟩:=List.mem_map.mp m
  exact x
theorem as2 (C:Cx) (ms:List Ms):∀ g,(C.Sh ms).gp g→False:=fun g ⟨R,m,x⟩=>by
 simp only[List.mem_cons,List.not_mem_nil,or_false] at m
 rcases m with rfl | rfl | rfl
 ·exact aiW ms g x
 ·exact x
 ·obtain⟨R,m,x⟩:=x
  simp only[List.mem_cons,List.not_mem_nil,or_false] at m
  rcases m with rfl | rfl | rfl
  ·exact an7 _ _ g x
  ·exact akY _ g x
  ·exact apn C g x
theorem aqn {C:Cx}{ms:List Ms}{s:Shared}(h:(C.Sh ms).P s):∃ ps,s.heap.get? 268=some { cls:=.none,data:=.fields ps }:=by
 have h1:aaf s [acs ms,agT (adF C.xs ms),C.Fx]:=h
 have h2:aaf s [aaQ C.lv C.vs,aat C.st,C.FsR]:=h1.2.2.2.2.1
 exact aj6 h2.2.2.1
theorem as5 {C:Cx}{ms:List Ms}{s:Shared}(h:(C.Sh ms).P s):∀ m∈ms,afS m s.heap:=fun m mm=>by
 have h1:aaf s [acs ms,agT (adF C.xs ms),C.Fx]:=h
 exact ahx (aaf.mem' h1.1 _ (List.mem_map_of_mem mm))
end
section
variable {w:World}{env:Env}
theorem amR {C:Cx}{ms:List Ms}(ok:adF C.xs ms):C.kvs=ach C.vs ms:=by
 unfold Cx.kvs ach
 rw[← ok.1,List.map_map]
 rfl
theorem aje {kvs:List (Option Str × Value)}(h:none ∉ kvs.map (·.1)):kvs.filter (fun p=>p.1.isSome)=kvs:=by
 rw[List.filter_eq_self]
 intro p m
 cases e:p.1 with
 | some _=>rfl
 | none=>exact absurd ((e)▸(List.mem_map_of_mem m)) h
theorem afI (kvs:List (Option Str × Value)):without kvs none=kvs.filter (fun p=>p.1.isSome):=by
 unfold without
 refine List.filter_congr fun p m=>?_
 cases p.1<;>rfl
theorem anl {C:Cx}{mv:Ms}{dead:Prop}{k1:Result→Sem PySem.Fin}{l1:List Value}{p1:Pos}{a:Addr}{g:Nat}{v0 v2 v3 v4 v5:Option Value}(F:aa8 env aaZ agJ) (hco:env.scope.isCoroutine=false) (ok:C.Ok)
  (hend:∀ A,aah A 60 230→∀ R0' s0 s L,abq L→ar0 (aae L)→aa0 s (aa5 w (aae [R0',msR mv]).fp (aae [R0',msR mv]).gp s0::msR mv::L)→GP w A (.func (aaa (D 8)) env) [] (k1 (.ok .next)) (PR (akC w mv) [] R0' () s0) (PY w 60 230 (akC w mv) [] R0' () s0) s) :
  ∀ us gs R,aaq w 49 194 (chS w C dead) us gs R→(∀ u∈us,uOk C.vs.length u)→∀ A,aah A 60 230→∀ R0' s0 s L ms v6 v7 v8,abq L→aqO L→ms.length=C.vs.length→bdS C.vs.length (ad7 ms)→adF C.xs ms→
   aa0 s (aa1 env.locals (aal aaZ [v0,some (.ref C.lv),v2,v3,v4,v5,v6,v7,v8])::aa5 w (aae [R0',msR mv]).fp (aae [R0',msR mv]).gp s0::([]++([aak a g false gs,R,C.Sh ms]++(msR mv::L))))→
   GP w A (adK PO (.ref a) env) [.ret k1 none false l1 (.func (aaa (D 8)) env) p1 []] ((model pw w).den (adK PO (.ref a) env)) (PR (akC w mv) ((afF (ad7 ms) us).filterMap (abI C.vs)) R0' () s0) (PY w 60 230 (akC w mv) ((afF (ad7 ms) us).filterMap (abI C.vs)) R0' () s0) s:=by
 intro us
 induction us with
 | nil=>
  intro gs R G hu A r R0' s0 s L ms v6 v7 v8 hL hT hl hb okm H
  have r':aah (A.over (adK PO (.ref a) env) [.ret k1 none false l1 (.func (aaa (D 8)) env) p1 []]) 59 227:=r.over
  exists 0,aen ?_,ajY (S:=chS w C dead) (x:=ms) (d:=49) (u:=194) [] (r'.mono (by exact lb rfl) (by exact lb rfl)) G H fun s' x' hx H'=>?_
  exact aeq _ (hend A r _ _ _ (_::_::L) ⟨fun J z=>z,as2 C x',hL⟩ (fun s hs=>⟨aqn hs.2.2.1,hT s hs.2.2.2.2⟩) (aa0.pick [1,3,0,2] 4 H'))
 | cons u us ih=>
  intro gs R G hu A r R0' s0 s L ms v6 v7 v8 hL hT hl hb okm H
  have r':aah (A.over (adK PO (.ref a) env) [.ret k1 none false l1 (.func (aaa (D 8)) env) p1 []]) 59 227:=r.over
  exists aen ?_,aeH (S:=chS w C dead) (x:=ms) (d:=49) (u:=194) [] (r'.mono (by exact lb rfl) (by exact lb rfl)) G H fun v gs' R' RY ms' s' ho hG H=>?_
  obtain⟨d,rfl,rfl,hst⟩:=ho
  have huok:uOk ms.length u:=by rw[hl]; exact hu u (.head _)
  obtain⟨est,okm',hl'⟩:=ahW huok okm hst
  simp only[hl] at hl'
  have hb':bdS C.vs.length (ad7 ms'):=by rw[est]; exact aiB (hu u (.head _)) hb
  have hn:∀ m∈ms',aco m.abs:=okm'.2
  have htb:∀ m∈ms',0≤tot m.abs∧tot m.abs≤100:=fun m mm=>by
   have h1:=hb'.2 (aeu m.abs) (List.mem_map_of_mem mm)
   have h2:=an9 h1.2
   rw[h1.1] at h2
   rw[af0 (hn m mm)]
   lia
  exists 0,goS 6 F H rfl fun s H=>?_,0
  obtain⟨_,H1⟩:=aoC (aa0.pick [5,0,1,2,3,4,6] 7 H)
  replace H:=aa0.pick [4,5,8,0,1,6,7,2,3,9] 10 H1
  exists gCW ?_
  refine ac8 ?_
  exists akL ?_,sL 7 F H rfl fun s H=>?_
  have K0:KvI C.vs ms' 0 C.kvs:=by rw[amR okm']; exact KvI.zero hl'
  refine abe ?_
  refine ag0 ?_
  refine alE (vs:=C.vs) (ms:=ms') (r'.mono (by exact lb rfl) (by exact lb rfl)) F hl' ok.nd (by have:=ok.l23; lia) htb K0 H fun s b kvs' v8 H h1 h2=>?_
  have er:afF (ad7 ms) (u::us)=ad7 ms'::afF (ad7 ms') us:=by rw[est]; rfl
  rw[er]
  have back:∀ {s:Shared} {d:Addr} {kvs:List (Option Str × Value)} {b:Bool},aa0 s (aa1 env.locals (aal aaZ [v0,some (.ref C.lv),v2,v3,v4,v5,some (.ref d),some (.bool b),v8])::aa5 w (aae [R0',msR mv]).fp (aae [R0',msR mv]).gp s0::ab7 w d kvs::acs ms'::aaQ C.lv C.vs::aak a g false gs'::R'::aat C.st::C.FsR::msR mv::L)→
    aa0 s (C.Sh ms'::aa1 env.locals (aal aaZ [v0,some (.ref C.lv),v2,v3,v4,v5,some (.ref d),some (.bool b),v8])::aa5 w (aae [R0',msR mv]).fp (aae [R0',msR mv]).gp s0::ab7 w d kvs::aak a g false gs'::R'::msR mv::L):=fun {s d kvs b} H=>
   amu okm' (H.pick [3,4,7,8,0,1,2,5,6,9] 10)
  cases b with
  | false=>
   obtain⟨j,v,m,q1,q2,q3⟩:=h2 rfl
   rw[List.filterMap_cons_none (alG hn q1 q2 q3)]
   exists gCI ?_,abP ?_,dL 7 F H rfl ?_,tB ?_
   refine ifN ((by decide)) ?_
   exists abK ?_,abK ?_,abA rfl ?_
   exact ih gs' R' hG (fun u' m=>hu u' (.tail _ m)) A r R0' s0 s (_::L) ms' _ _ _ ⟨fun J z=>z,hL⟩ hT.cons hl' hb' okm' (aa0.pick [1,2,4,5,0,6,3] 7 (back H))
  | true=>
   obtain⟨q1,K⟩:=h1 rfl
   rw[List.filterMap_cons_some (anD hn q1)]
   exists gCI ?_
   refine abP ?_
   exists dL 7 F H rfl ?_,tB ?_
   refine ifP (rfl) ?_
   have hklen:kvs'.length≤3:=by
    have:(kvs'.map (·.1)).length≤3:=by rw[K.ks,List.length_map]; have:=ok.l23; lia
    simpa using this
   have ndk:(kvs'.map (·.1)).Nodup:=by rw[K.ks]; exact ok.nd
   have yield:∀ {s:Shared} {kvs'':List (Option Str × Value)},aa0 s (aa1 env.locals (aal aaZ [v0,some (.ref C.lv),v2,v3,v4,v5,some (.ref d),some (.bool true),v8])::aa5 w (aae [R0',msR mv]).fp (aae [R0',msR mv]).gp s0::ab7 w d kvs''::acs ms'::aaQ C.lv C.vs::aak a g false gs'::R'::aat C.st::C.FsR::msR mv::L)→kvs''=kvs'.filter (fun p=>p.1.isSome)→
     ∀ gs2,(∀ A' QR' QY' s'',GP w A' (adK PO (.ref a) env) [.ret k1 none false l1 (.func (aaa (D 8)) env) p1 []] ((KL (adK PO (.ref a) env)) .next) QR' QY' s''→acd w A' gs2 QR' QY' s'')→
     PY w 60 230 (akC w mv) (((C.vs.zip (ad7 ms')).map fun p=>(p.1.name,aaX p.1 p.2)).filter (fun p=>p.1.isSome)::(afF (ad7 ms') us).filterMap (abI C.vs)) R0' () s0 (.ref d) gs2 s:=fun {s kvs''} H ek gs2 hgs=>by
    have H3:=(aa0.sep (L:=[_,_,_])).mpr (((aa0.sep (L:=[_,_,_,_,_])).mpr ((aa0.foldEnd [_,_,_,_,_,_,_] (back H)).pick [2,5,6,1,0,3,4,7] 8)).pick [0,2,3,1] 4)
    have hlen2:kvs''.length≤3:=by rw[ek]; exact Nat.le_trans (List.length_filter_le ..) hklen
    have nd2:(kvs''.map (·.1)).Nodup:=by rw[ek]; exact ((List.filter_sublist (l:=kvs')).map _).nodup ndk
    refine⟨_,_,(),trivial,⟨d,kvs'',rfl,rfl,hlen2,nd2,fun s₁ hR hmv=>?_⟩,aaq.of ((((aa0.sep (L:=[_,_,_,_,_])).mpr ((aa0.foldEnd [_,_,_,_,_,_,_] (back H)).pick [2,5,6,1,0,3,4,7] 8)).pick [1,0] 2).freeK [] []) fun A' rA x' s3 HH=>?_,(H3.pick [1,0] 2).turn trivial⟩
    ·rw[ek]
     have h1:aaf s₁ [_,_,_,C.Sh ms',_]:=hR
     exact (aiC hl' hn (as5 h1.2.2.2.2.2.2.1) K).filter
    ·have G1:=(aa0.sep (L:=[_,_,_,_,_])).mp (HH.pick [1,0,2] 3)
     exact hgs A' _ _ s3 (abA rfl (ih gs' R' hG (fun u' m=>hu u' (.tail _ m)) A' rA _ s3 s3 [aae L] ms' _ _ _ ⟨aba hL,trivial⟩ (fun s hs=>hT s hs.1) hl' hb' okm' (G1.pick [0,5,1,2,3,6,4] 7)))
   exists gCI ?_
   refine abS ?_
   exists ad5 ?_,dL 6 F H rfl ?_,atM (k:=none) (H.at [_,_]) rfl ?_
   replace H:=H.keep (aab (s.toks+1))
   exists tB ?_
   by_cases hin:none∈kvs'.map (·.1)
   ·have hs:(valueAt kvs' none).isSome=true:=by
     obtain⟨q,mq,eq⟩:=List.mem_map.mp hin
     unfold valueAt
     rw[Option.isSome_map,List.find?_isSome]
     exact⟨q,mq,by simp[eq]⟩
    rw[hs,if_pos rfl]
    exists gCW ?_
    refine atU ?_
    exists dL 6 F H rfl ?_,ad5 ?_,asi (k:=none) [_,_] H rfl hs (by exact q73 ‹_›) fun s H=>?_,abK ?_,abe ?_
    refine abn rfl rfl rfl hco F.inter ?_
    exists dL 6 F H rfl ?_
    exact yield H (afI kvs')
   ·have hs:(valueAt kvs' none).isSome=false:=by
     unfold valueAt
     rw[Option.isSome_map,Bool.eq_false_iff]
     intro hx
     rw[List.find?_isSome] at hx
     obtain⟨q,mq,eq⟩:=hx
     exact hin (List.mem_map.mpr ⟨q,mq,by simpa using eq⟩)
    rw[hs,if_neg (by decide)]
    exists abK ?_,abe ?_,abn rfl rfl rfl hco F.inter ?_,dL 6 F H rfl ?_
    exact yield H (aje hin).symm
end
theorem ahT (hs:Int) (tk:Tok) (l:Addr) (n:Nat):shadowIn (some (aoB hs tk l n)) "items" = some false:=by kernel_rfl
theorem ar3 (P:Params):∃ o,(116,o)∈K P∧o.data=.func ao1:=asX.obj P
section
variable {w:World}{A:Around}{s s0:Shared}{env:Env}{L:List Res}{fp:Addr→Prop}{gp:Nat→Prop}{R R₁:Res}
theorem agh {o:Expr}{apos pos:Pos}{Q:Value→Shared→Prop}(r:aah A 1 3)
  (h:WP w A (eval o env) (fun ov s₁=>∃ m R R₂ L,ov=.ref m.x∧afS m s₁.heap∧m.rows.length≤100∧Bs w s₁.heap∧aa0 s₁ (R::R₂::L)∧∀ s' v D,aa0 s' (R::R₂::fzR D::L)→RD D v (msD m.abs)→Q v s') s)
  (hbase:attributeBase o "items" env (eval o env)=eval o env:=by rfl) (hline:(apos.endLine==pos.line)=true:=by rfl):WP w A (eval (.Call (.Attribute o "items" apos) [] [] pos) env) Q s:=by
 exists akT (h.mono fun ov s₁ x pl=>?_) hbase rfl hline
 obtain⟨m,R,R₂,L,rfl,hm,hn,B,H,hQ⟩:=x
 obtain⟨hs,tk,n,e⟩:=hm.att
 obtain⟨fo,hfo,hfd⟩:=ar3 w.params
 refine .of (method_fn B.frag (afo hm.x e) (adZ _).ga (adZ _).gat (adZ _).items (adZ _).f116 (ahT _ _ _ _) ?_)
 exact abY (o:=fo) (fd:=ao1) (adE ⟨⟨B.k _ hfo,hfd⟩,aom r B hm hn fun s' v D mk hd=>hQ s' v D (H.made mk) hd⟩)
theorem amm {elts:List Expr}{k:Nat}{p:Pos}{a l:Addr}{i:Nat}{v:Value}{Q:Unit→Shared→Prop}(hg:s.heap.IsListIter a l i) (h:Q () s):WP w A (letOwnedTupleGo (.Tuple elts k p) (.ref a) v) Q s:=by
 obtain⟨o,ho,hc,hd⟩:=hg
 unfold letOwnedTupleGo
 cases v with
 | ref b=>
  refine .bind (.of (wpAny_load ho ?_))
  rw[hc,hd]
  exact⟨aag h⟩
 | _=>exact .pure h
theorem agH {l:Addr}{items:Array Value}{Q:Value→Shared→Prop}(H:aa0 s L) (hl:s.heap.IsList l items) (hn:items.size≤1000) (h:∀ s' t,aa0 s' L→Q (.int items.size t) s'):WP w A (call (.builtin "len") [.ref l]) Q s:=
 .of (PyProof.Rows.len_list hl (by exact q8 ‹_›) (h _ _ (H.keep (aab (s.toks+1+1)))))
end
noncomputable def PF:Stmt:=at' (aaa (D 8)) 3
noncomputable def aps (lv:Addr) (vs:List VI) (Fs:List Fac):Res:=aae (Fs.map fun F=>F.R lv vs)
structure FsI (abs:List (Int × Int)) (i:Nat) (st:Option Addr) (Fs:List Fac):Prop where
 kn:Fs.map (fun F=>(F.k,F.n))=abs.take i
 c:∀ F∈Fs,st=some F.c
section
variable {w:World}{A:Around}{s s0:Shared}{env:Env}{L:List Res}{fp:Addr→Prop}{gp:Nat→Prop}
inductive apI (mv:Ms) (env:Env) (lv gl:Addr) (v5 v6 v7 v8:Option Value) (w:World) (fp:Addr→Prop) (gp:Nat→Prop) (s0:Shared) (D:List Fz) (it la:Addr) (vs:List VI) (L:List Res) (n:Nat) (s':Shared):Prop
 | mk (i st Fs v3 v4):n=mv.abs.length - i→i≤mv.abs.length→FsI mv.abs i st Fs→aa0 s' (aa1 env.locals (aal aaZ [some (.ref mv.x),some (.ref lv),some (.ref gl),v3,v4,v5,v6,v7,v8])::aa5 w fp gp s0::fzR D::abx it la i::aat st::aaQ lv vs::aps lv vs Fs::aa2 gl (Fs.map fun F=>Value.ref F.f).toArray::msR mv::L)→apI mv env lv gl v5 v6 v7 v8 w fp gp s0 D it la vs L n s'
theorem al0 {vs:List VI}{lv gl:Addr}{mv:Ms}{v5 v6 v7 v8:Option Value}{Q:Flow→Shared→Prop}(r:aah A 3 13) (F:aa8 env aaZ agJ) (hn:vs.length≤100) (hr:mv.rows.length≤100)
  (H:aa0 s (aa1 env.locals (aal aaZ [some (.ref mv.x),some (.ref lv),some (.ref gl),none,none,v5,v6,v7,v8])::aa5 w fp gp s0::aat none::aaQ lv vs::aa2 gl #[]::msR mv::L))
  (h:∀ s' st Fs D v3 v4,aa0 s' (aa1 env.locals (aal aaZ [some (.ref mv.x),some (.ref lv),some (.ref gl),v3,v4,v5,v6,v7,v8])::aa5 w fp gp s0::aat st::aaQ lv vs::aps lv vs Fs::aa2 gl (Fs.map fun F=>Value.ref F.f).toArray::msR mv::fzR D::L)→FsI mv.abs mv.abs.length st Fs→Q .next s'):WP w A (exec PF env) Q s:=by
 exists 0,aem ?_,agh (r.mono (by exact lb rfl) (by exact lb rfl)) ?_,dL 0 F H rfl ⟨mv,_,_,_,rfl,ahx (H.at [_,_,_,_,_]),hr,H.bs,H,fun s v D H hd=>?_⟩
 obtain⟨la,items,rfl,hla,hds⟩:=hd.lst
 have hlist:∀ {s:Shared},(fzR D).P s→s.heap.IsList la items:=fun {s} h=>(show s.heap.PlainList la items from aas h _ hla).isList
 exists aaM (hlist (H.at [_,_])) H fun s it H=>?_
 have hll:items.size=mv.abs.length:=by have:=hds.length; simpa using this
 replace H:=aa0.pick [1,2,4,3,5,6,0,7,8] 9 ((aa0.sep (L:=[])).mpr H)
 exists abB (I:=apI mv env lv gl v5 v6 v7 v8 w fp gp s0 D it la vs L) (fun n s' hI=>?_) _ ⟨0,none,[],none,none,rfl,Nat.zero_le _,⟨by rfl,fun J m=>nomatch m⟩,H⟩
 obtain⟨i,st,Fs,v3,v4,en,hi,I,H⟩:=hI
 cases hr:mv.abs[i]? with
 | none=>
  have hlen:=List.getElem?_eq_none_iff.mp hr
  exists abF [_,_,_] r.handled H (hlist (H.at [_,_])) (by rw[Array.getElem?_eq_none_iff]; exact q11 ‹_› ‹_› ‹_›) fun s₂ H2=>?_
  have ei:i=mv.abs.length:=by exact q20 ‹_› ‹_›
  rw[ei] at I
  exact h s₂ st Fs D _ _ (aa0.cut 1 (H2.pick [3,0,1,4,5,6,7,8,2] 9)) I
 | some p=>
  have hlt:=(List.getElem?_eq_some_iff.mp hr).1
  obtain⟨x,hx,hxd⟩:=hds.get (i:=i) (y:=pD p) (by rw[List.getElem?_map,hr]; rfl)
  obtain⟨T,tk,tc,rfl,hT⟩:=af4 hxd
  exists aaN [_,_,_] H (hlist (H.at [_,_])) (by simpa using hx) fun s₂ H=>?_,0,amm (H.at [_,_,_]) ?_,aoM r.handled (show s₂.heap.IsTuple T _ from aas (H.at [_,_]) _ hT) H fun s₂ H=>?_,aaV ?_,aS 3 F H rfl fun s₂ H=>?_,aaV ?_,aS 4 F H rfl fun s₂ H=>?_,0,aiL ?_
  have hgl:=H.at (R:=aa2 gl (Fs.map fun F=>Value.ref F.f).toArray) [_,_,_,_,_,_,_]
  exists aa7 ?_,afi F.inter ?_,alP ?_,dL 2 F H rfl ⟨gl,_,rfl,hgl,?_⟩
  exists acB 2 3 F asM.obj H ?_
  refine spL 3 F H rfl ?_
  exists spL 4 F H rfl ?_
  refine spL 1 F H rfl ?_
  exists aa6 ⟨H.bs,?_⟩
  have H2:=((aa0.sep (L:=[_,_])).mpr (H.pick [4,5,0,1,2,3,6,7,8] 9)).pick [1,2,0,3,4,5,6,7] 8
  exists aoL r H.bs hn (H2.at [_,_]) (H2.freeK [_] []) fun s3 Fa c hcc ek en' ec k=>?_
  have hFl:Fs.length=i:=by
   have:=congrArg List.length I.kn
   simp only[List.length_map,List.length_take] at this
   lia
  refine⟨[_,_,_,_,_,_,_],_,_,(aa0.mapNew (f:=fun F:Fac=>F.R lv vs) (l:=Fs) (x:=Fa) [_,_,_,_,_,_] (((aa0.sep (L:=[_,_,_])).mp (aa0.pick [2,0,1,3,4,5,6,7] 8 (H2.updAt [_,_] k))).pick [3,4,5,6,0,1,7,2,8,9] 10)),by simp; unfold Ms.abs at hlt; simp at hlt; exact q33 ‹_› ‹_› ‹_›,fun s4' H=>aer<|aaL ?_⟩
  refine⟨mv.abs.length - (i+1),by exact q1 ‹_› ‹_›,i+1,some c,Fs++[Fa],some (.int p.1 tk),some (.int p.2 tc),rfl,hlt,⟨?_,fun F' mF=>?_⟩,?_⟩
  ·simp only[List.map_append,I.kn,List.take_add_one,hr]
   show _++[(Fa.k,Fa.n)] = _++[p]
   simp only[ek,en']
  ·rcases List.mem_append.mp mF with mF | mF
   ·have q:=I.c F' mF
    rw[hcc _ q]
   ·rw[List.mem_singleton.mp mF,ec]
  ·have e4:((Fs++[Fa]).map fun F=>Value.ref F.f).toArray=(Fs.map fun F=>Value.ref F.f).toArray.push (.ref Fa.f):=by simp
   exact (e4)▸(H)
end
end
section
variable {w:World}{A:Around}{s:Shared}{L:List Res}
theorem ajZ {fd:FuncData}{f:Addr}{ns gs:List Str}{body:List Stmt}{vals:List Value}{binds:List (Str × Value)}{vs:List (Option Value)}{Q:Value→Shared→Prop}{d u:Nat}
  (X:Fn fd f ns gs) (r:aah A (d+1) (u+3)) (b:Bs w s.heap) (hbody:fd.body=.stmts body) (hbind:BindsTo s fd ⟨vals,[]⟩ binds) (hb:∀ x∈binds,x.1∈ns) (hv:∀ y,binds.reverse.lookup y=aal ns vs y)
  (h:∀ env a g s',aa8 env ns gs→env.scope.isCoroutine=false→env.code=fd.code→acr (aae [aak a g false (.fresh (.func body env)),aa1 env.locals (aal ns vs)]) s s'→Q (.ref a) s')
  (hgen:fd.scope.isGenerator=true:=by rfl):WP w A (call (.ref f) vals) Q s:=by
 obtain⟨o,hoK,hod⟩:=X.obj w.params
 have hc:=X.chk
 obtain⟨h1,h2,h3,h4,h5,h6,h7,h8,h9⟩:=anz hc
 refine .of (wpAny_call (codeAny_call_generator r.lt (b.k _ hoK) hod h2 hgen hbody (X.codeRec b) (hbind _ _ _ _ (wpAny_newFunctionEnv (fun x hx e=>by
   have:=h9 x hx
   rw[e] at this; revert this; decide) (fun x hx=>h4 x.1 (hb x hx)) (fun h0' hns hsb=>⟨b.nolimit.fresh _ hsb,?_⟩) h1))))
 have hk:∀ b o,s.heap.get? b=some o→h0'.get? b=some o:=fun b o e=>hsb.extBut b o (Nat.ne_of_lt (Heap.lt_size e)) (Heap.get?_push_of_some _ e)
 have hL:s.heap.objs.size<h0'.objs.size:=by obtain⟨o,_,_,ho,_⟩:=hns; exact Heap.lt_size ho
 refine h (callEnv fd s.heap.objs.size f) h0'.objs.size s.gens.size _ (X.env _ _) h2 rfl ⟨⟨fun c o J e=>Heap.get?_push_of_some _ (hk c o e),fun g hg J=>?_,rfl⟩,fun g x e hc hn=>?_,⟨⟨⟨_,_,_,Heap.get?_push_size _ rfl,rfl,rfl,.inl rfl⟩,Array.getElem?_push_size ..⟩,fun R m=>?_,?_,fun J m=>(nomatch m),trivial⟩,fun c ⟨R,m,x⟩=>.inr ?_,fun g ⟨R,m,x⟩=>.inr ?_⟩
 ·exact (Array.getElem?_push_lt hg).trans (Array.getElem?_eq_getElem hg).symm
 ·rcases hc with hc | hc
  ·have hlt:=(Array.getElem?_eq_some_iff.mp e).1
   simp only[Array.size_push] at hlt
   exact absurd ⟨_,.head _,show g=s.gens.size by exact q9 ‹_› ‹_›⟩ hn
  ·exact hc.elim
 ·rcases List.mem_singleton.mp m with rfl
  refine⟨fun c e x=>?_,fun g e z=>z⟩
  cases e
  have x':h0'.objs.size=s.heap.objs.size:=x
  rw[x'] at hL
  exact absurd hL (Nat.lt_irrefl _)
 ·exact abh (hns.push _) hv
 ·rcases List.mem_cons.mp m with rfl | m
  ·have x':c=h0'.objs.size:=x
   cases hq:s.heap.get? c with
   | none=>rfl
   | some o=>
    have hlt:=Heap.lt_size hq
    rw[x'] at hlt
    exact absurd (Nat.lt_trans hlt hL) (Nat.lt_irrefl _)
  ·rcases List.mem_singleton.mp m with rfl
   exact aa9 c x
 ·rcases List.mem_cons.mp m with rfl | m
  ·exact Nat.le_of_eq (Eq.symm x)
  ·rcases List.mem_singleton.mp m with rfl
   exact x.elim
end
section
open Builtin Builtin.ObjectAttr
noncomputable def aeC (vs:List VI) (abs:List (Int × Int)):List (Int × List (List Int)):=abs.map fun p=>(p.1,agf (vs.map VI.count) p.2.toNat)
noncomputable def acJ (vs:List VI) (abs:List (Int × Int)):List abD:=(afF (vs.map fun J=>[0,0,0,0]) (ab1 (aeC vs abs))).filterMap (abI vs)
structure aoU (vs:List VI) (mv:Ms):Prop where
 l23:vs.length=2∨vs.length=3
 nd:(vs.map VI.name).Nodup
 cs:∀ v∈vs,v.count∈[1,2,3]
 nice:aco mv.abs
 le4:∀ p∈mv.abs,p.2≤4
 l3:mv.abs.length≤3
theorem FsI.len {abs:List (Int × Int)}{st:Option Addr}{Fs:List Fac}(I:FsI abs abs.length st Fs):Fs.length=abs.length:=by
 have:=congrArg List.length I.kn
 simpa using this
theorem FsI.mem {abs:List (Int × Int)}{st:Option Addr}{Fs:List Fac}(I:FsI abs abs.length st Fs) {F:Fac}(m:F∈Fs):(F.k,F.n)∈abs:=by
 have h:=I.kn
 rw[List.take_length] at h
 exact (h)▸(List.mem_map_of_mem (f:=fun F:Fac=>(F.k,F.n)) m)
theorem atB {vs:List VI}{mv:Ms}{lv:Addr}{st:Option Addr}{Fs:List Fac}{ms:List Ms}(ok:aoU vs mv) (I:FsI mv.abs mv.abs.length st Fs) (hl:vs.length=ms.length):(Cx.mk lv vs st Fs (ms.map (·.x))).Ok where
 lx:=by simp[hl]
 nd:=ok.nd
 cs:=ok.cs
 l23:=ok.l23
 fc:=I.c
 fk:=fun F m=>ok.nice.ks _ (I.mem m)
 fn:=fun F m=>by
  have h1:=ok.nice.pos _ (I.mem m)
  have h2:=ok.le4 _ (I.mem m)
  dsimp only at h1 h2
  exact⟨F.n.toNat,by lia,List.mem_range.mpr (by exact q37 ‹_› ‹_›)⟩
theorem akt {vs:List VI}{mv:Ms}{lv:Addr}{st:Option Addr}{Fs:List Fac}{xs:List Addr}(I:FsI mv.abs mv.abs.length st Fs):(Cx.mk lv vs st Fs xs).lvls 0=aeC vs mv.abs:=by
 have h:=I.kn
 rw[List.take_length] at h
 unfold Cx.lvls aeC
 simp only[← h,List.map_map]
 rfl
section
variable {w:World}{env:Env}
theorem aii {vs:List VI}{lv:Addr}{mv:Ms}(F:aa8 env aaZ agJ) (hco:env.scope.isCoroutine=false) (hcode:env.code=.ref 284) (ok:aoU vs mv)
  (hf:freeK (aae [aa1 env.locals (aal aaZ [some (.ref mv.x),some (.ref lv),none,none,none,none,none,none,none]),aat none,plR 280 #[],aaQ lv vs])) :
  aaq w 60 230 (akC w mv) (acJ vs mv.abs) (.fresh (.func (aaa (D 8)) env)) (aae [aa1 env.locals (aal aaZ [some (.ref mv.x),some (.ref lv),none,none,none,none,none,none,none]),aat none,plR 280 #[],aaQ lv vs]):=by
 refine aaq.of hf fun A r x s H=>?_
 have H1:=(aa0.sep (L:=[_,_,_,_])).mp (H.pick [1,0,2] 3)
 have H:=aa0.pick [0,4,1,3,5,2] 6 H1
 clear H1
 have r':aah (A.over (.func (aaa (D 8)) env) []) 59 227:=r.over
 have hvs:vs.length≤3:=by have:=ok.l23; lia
 have hrows:mv.rows.length≤3:=by have:=ok.l3; unfold Ms.abs at this; simpa using this
 have hvr:(acl vs).size=vs.length:=by unfold acl; simp
 refine afj ?_
 exists gCW ?_,akG F H fun s H=>?_,0,gCI ?_,abS ?_,aaj 0 2 F H ?_,spL 1 F H rfl ?_,aa6 ?_,agH H (aaC (H.at [_,_,_])).isList (by lia) fun s u H=>?_,aaW H fun s t H=>?_,tEq ?_
 refine ifN ((by rw[hvr]; have:=ok.l23; simp; lia)) ?_
 exists abK ?_,gCW ?_,ac8 ?_,ab5 ?_
 refine aa6 ⟨_,_,_,H,aam,fun s gl H=>sL 2 F H rfl fun s H=>?_⟩
 exists gCW ?_
 refine al0 (r'.mono (by exact lb rfl) (by exact lb rfl)) F (by lia) (by lia) (H.pick [0,1,3,4,2,5,6] 7) fun s st Fs D v3 v4 H I=>?_
 replace H:=H.pick [0,1,8,2,3,4,5,6,7] 9
 exists gCW ?_,ac8 ?_,abo 3 1 F H ?_,aa3 ?_,anJ (nsC:=["var"]) (gsC:=["Multiset"]) r'.lt F hcode (by kernel_rfl) (by decide) (by kernel_rfl) ?_,dL 1 F H rfl ?_,aaM (aaC (H.at [_,_,_,_])).isList H fun s it H=>?_,0
 refine⟨_,_,_,_,_,_,H.pick [0,1,3,2,4,5,6,7,8,9] 10,rfl,fun s cenv a2 g2 nm qn ps' Fc hcc htr H hgo=>?_⟩
 have G1:=alh (w:=w) (lv:=lv) (it:=it) (vs:=vs) Fc hcc ((((aa0.sep (L:=[_,_])).mpr (H.pick [3,5,0,1,2,4,6,7,8,9,10,11] 12)).pick [1,2,3,0,6,4,5,7,8,9,10] 11).freeK [_] [_])
 exists aa6 ?_,alA (r'.mono (by exact lb rfl) (by exact lb rfl)) G1 hgo ok.nd (by lia) (((aa0.sep (L:=[_,_])).mpr (H.pick [3,5,0,1,2,4,6,7,8,9,10,11] 12)).pick [1,2,3,0,6,4,5,7,8,9,10] 11) fun s dd ms e1 e2 H=>?_,sL 5 F H rfl fun s H=>?_
 have ok':=atB (lv:=lv) (st:=st) (Fs:=Fs) (ms:=ms) ok I e1
 have okm:adF (ms.map (·.x)) ms:=⟨rfl,fun m mm=>by rw[e2 m mm]; exact aco.nil⟩
 have hkv:ach vs ms=(Cx.mk lv vs st Fs (ms.map (·.x))).kvs:=(amR (C:=Cx.mk lv vs st Fs (ms.map (·.x))) okm).symm
 have hFl:Fs.length≤3:=by rw[I.len]; exact ok.l3
 simp only[hkv] at H
 refine GP.lt ?_; intro QR' QY'
 exists abe ?_,aq3 ?_,acB 4 9 F aqN.obj H ?_,spL 5 F H rfl ?_,ah0 ?_
 refine dL 2 F H rfl ⟨gl,(Cx.mk lv vs st Fs (ms.map (·.x))).fvals 0,[_,_,_,_,_,_,_,_],_,rfl,H,by rw[aeg]; show Fs.length - 0≤1000; lia,fun s H=>aa6 ⟨H.bs,?_⟩⟩
 rw[List.append_nil]
 refine an2 ok' hFl Fs.length 0 (Nat.add_zero _) _ _ _ _ _ _ _ dd _ (r'.mono (by exact lb rfl) (by exact lb rfl)) H fun s' a3 g3 gs3 R3 H G3=>?_
 refine adt (H.at [_,_]).1 fun p k' l hk=>?_
 have H4:=amu (C:=Cx.mk lv vs st Fs (ms.map (·.x))) okm (aa0.pick [4,5,7,8,0,1,2,3,10,6,9,11] 12 H)
 have hst:ad7 ms=vs.map fun J=>[0,0,0,0]:=by
  unfold ad7
  apply List.ext_getElem
  ·simp[e1]
  ·intro i h1 h2
   simp only[List.getElem_map]
   rw[e2 _ (List.getElem_mem _)]
   rfl
 have hbd:bdS vs.length (ad7 ms):=by
  rw[hst]
  refine⟨by simp,fun q mq=>?_⟩
  obtain⟨v,_,rfl⟩:=List.mem_map.mp mq
  refine⟨rfl,fun c mc=>?_⟩
  simp only[List.mem_cons,List.not_mem_nil,or_false] at mc
  lia
 have huo:∀ q∈ab1 ((Cx.mk lv vs st Fs (ms.map (·.x))).lvls 0),uOk vs.length q:=alM fun q mq=>by
  rw[akt I] at mq
  obtain⟨q',mq',rfl⟩:=List.mem_map.mp mq
  have h1:=ok.nice.pos _ mq'
  have h2:=ok.le4 _ mq'
  exact⟨ok.nice.ks _ mq',fun o mo=>⟨ahH ok' _ o mo,ao3 ok' (List.mem_range.mpr (by exact q37 ‹_› ‹_›)) o mo⟩⟩
 have y:=anl (C:=Cx.mk lv vs st Fs (ms.map (·.x))) (mv:=mv) (k1:=k') (l1:=l) (p1:=p) F hco ok' (fun A r R0' s0 s L hL hT H=>?_) _ gs3 R3 (G3.mono (by lia) (by lia)) huo A r _ _ _ [_,_,_] ms _ _ _ ⟨fun J z=>z,fun J z=>z,abp D,trivial⟩ (fun s hs=>⟨_,hs.1⟩) e1.symm hbd okm (H4.pick [1,2,3,4,0,5,6,7,8] 9)
 ·have eo:(afF (ad7 ms) (ab1 ((Cx.mk lv vs st Fs (ms.map (·.x))).lvls 0))).filterMap (abI (Cx.mk lv vs st Fs (ms.map (·.x))).vs)=acJ vs mv.abs:=by rw[akt I,hst]; rfl
  rw[eo] at y
  exact y
 ·rw[hk]
  exact abK (afm ⟨aae L,(),⟨aba hL,trivial⟩,hT,rfl,(aa0.fin2 H).turn trivial⟩)
end
noncomputable def SeqAt (h:Heap) (t:Addr) (items:Array Value):Prop:=∃ o,h.get? t=some o∧∃ n,o.data=.seq items n
theorem SeqAt.ext {h h':Heap}{t it:Addr}{items:Array Value}(x:SeqAt h t items) (hs:Heap.ExtBut it h h') (hne:t≠it):SeqAt h' t items:=let ⟨o,ho,r⟩:=x; ⟨o,hs t o hne ho,r⟩
section
variable {prog:Program}{w:World}{A:Around}{E:Value→Shared→Prop}{s:Shared}
theorem afh {it t:Addr}{i:Nat}{items}{x:Value}{Q:Option Value→Shared→Prop}(hit:s.heap.IsTupleIter it t i)
  (ht:SeqAt s.heap t items) (hx:items[i]? = some x)
  (hQ:∀ h',h'.IsTupleIter it t (i+1)→Heap.SameBut it s.heap h'→Q (some x) { s with heap:=h' }) :
  wpAny (model prog w) A (pyNext (.ref it)) Q E s:=by
 obtain⟨o,ho,hc,hd⟩:=id hit
 obtain⟨ol,hol,nl,hdl⟩:=ht
 unfold pyNext
 refine wpAny_bind (wpAny_attempt (wpAny_callSpecial?_slot (name:=Str.ofString "__next__") hit.typeIs PySem.F.slot_tuple_iterator_next
  (wpAny_call_entry PySem.F.slot_tuple_iterator_next hit.typeIs PySem.F.entry_tuple_iterator_next ?_ (PySem.F.args_tuple_iterator_next_1 _))))
 show wpAny _ _ (field (.ref it) 0 >>= _) _ _ s
 refine wpAny_bind (wpAny_field ho hd (x:=.ref t) rfl ?_)
 show wpAny _ _ (if (Value.ref t==Value.none)=true then _ else _) _ _ s
 show wpAny _ _ (field (.ref it) 1 >>= _) _ _ s
 refine wpAny_bind (wpAny_field ho hd (x:=.int i 0) rfl ?_)
 refine wpAny_bind (wpAny_seqItems hol hdl ?_)
 simp only[Int.toNat_natCast,hx]
 refine wpAny_bind (wpAny_setField ho hd (by simp) (wpAny_pure ⟨x,rfl,wpAny_pure (hQ _ ?_ (Heap.SameBut.update ..))⟩))
 exact⟨_,Heap.get?_update_self _ ho (Obj.isFreed_of_fields (Obj.data_mapFields hd _)),(Obj.cls_mapFields ..).trans hc,by
  rw[Obj.data_mapFields hd]; rfl⟩
theorem agd {it t:Addr}{i:Nat}{items}{Q:Option Value→Shared→Prop}(hh:A.handled=none)
  (hit:s.heap.IsTupleIter it t i) (ht:SeqAt s.heap t items) (hx:items[i]? = none)
  (hQ:∀ h',Heap.ExtBut it s.heap h'→Q none { s with heap:=h' }):wpAny (model prog w) A (pyNext (.ref it)) Q E s:=by
 obtain⟨o,ho,hc,hd⟩:=id hit
 obtain⟨ol,hol,nl,hdl⟩:=ht
 refine wpAny_bind (wpAny_attempt (wpAny_callSpecial?_slot (name:=Str.ofString "__next__") hit.typeIs PySem.F.slot_tuple_iterator_next
  (wpAny_call_entry PySem.F.slot_tuple_iterator_next hit.typeIs PySem.F.entry_tuple_iterator_next ?_ (PySem.F.args_tuple_iterator_next_1 _))))
 show wpAny _ _ (field (.ref it) 0 >>= _) _ _ s
 refine wpAny_bind (wpAny_field ho hd (x:=.ref t) rfl ?_)
 show wpAny _ _ (if (Value.ref t==Value.none)=true then _ else _) _ _ s
 show wpAny _ _ (field (.ref it) 1 >>= _) _ _ s
 refine wpAny_bind (wpAny_field ho hd (x:=.int i 0) rfl ?_)
 refine wpAny_bind (wpAny_seqItems hol hdl ?_)
 simp only[Int.toNat_natCast,hx]
 refine wpAny_bind (wpAny_rule (wpAny_bind (wpAny_setField ho hd (by simp) ?_)))
 show wpAny _ _ (newExc (.type "StopIteration") [] >>= _) _ _ _
 refine wpAny_bind ?_
 refine wpAny_bind (wpAny_newObj_type ?_ (by size_fits))
 refine wpAny_bind (m:=firstArgMember _ _) (wpAny_of_eq (a:=Value.none) (by first | rfl | (simp only[firstArgMember]; rfl)) ?_)
 refine wpAny_newObj_type ?_ (by size_fits)
 refine wpAny_bind (wpAny_handled ?_)
 first | rw[show A.in1.handled=none from hh] | rw[hh]
 refine wpAny_bind (wpAny_pure (wpAny_throw ?_))
 refine wpAny_bind (wpAny_isInstance (T := "StopIteration") (b:=true) ⟨_,Heap.get?_push_size _ rfl,rfl⟩ isSubtype_stop ?_)
 exact wpAny_pure (hQ _ (((Heap.SameBut.update ..).extBut.push _).push _))
theorem ami {it t:Addr}{items:Array Value}(hne:t≠it):∀ (n i:Nat) (s:Shared) (Q:List Value→Shared→Prop),s.heap.IsTupleIter it t i→SeqAt s.heap t items→i+n≤items.size→
  (∀ h',h'.IsTupleIter it t (i+n)→Heap.SameBut it s.heap h'→Q ((items.toList.drop i).take n) { s with heap:=h' })→wpAny (model prog w) A (draw (.ref it) n) Q E s:=by
 intro xX
 induction xX with
 | zero=>
  refine @fun i s Q hit J J hQ=>?_
  show wpAny _ _ (pure []) Q E s
  exact wpAny_pure (by simpa using hQ s.heap hit (Heap.SameBut.refl ..))
 | succ n ih=>
  refine @fun i s Q hit ht hle hQ=>?_
  have hlt:i<items.size:=by omega
  refine wpAny_bind (afh hit ht (x:=items[i]) (by simp[hlt]) fun h1' hit₁ hs1'=>?_)
  refine wpAny_bind (wpAny_holding (ih (i+1) _ _ hit₁ (ht.ext hs1'.extBut hne) (by exact q49 ‹_›) fun h2'' hit₂ hs2'=>wpAny_pure ?_))
  have hd:items.toList.drop i=items[i]::items.toList.drop (i+1):=by simp[List.drop_eq_getElem_cons,hlt]
  have:=hQ h2'' (by rw[show i+(n+1)=i+1+n by omega]; exact hit₂) (hs1'.trans hs2')
  simp only[hd,List.take_succ_cons] at this
  exact this
end
theorem anF (P:Params):findIn (K P) (.ref 263) "__iter__" = some (some (.builtin "tuple.__iter__")):=by kernel_rfl
section
variable {w:World}{A:Around}{s:Shared}{env:Env}{L:List Res}
theorem ap9 {v d:Addr} {items:Array Value} {Q:Value→Shared→Prop} (B:Bs w s.heap) (hv:(vwR v d items).P s) (h:Q (.ref s.heap.objs.size) { s with heap:=s.heap.push { cls:=.type "tuple_iterator",data:=.fields #[.ref v,.int 0 0] } }):WP w A (pyIter (.ref v)) Q s:=by
 obtain⟨⟨n,hx⟩,hd⟩:=hv
 have I:=acQ hx hd
 have X:=B.frag
 unfold pyIter
 refine .bind ?_
 refine .bind (.of (I.type.here ?_))
 refine .lookR (looks_findIn X (anF _)) ?_
 refine .bind ?_
 have hcall:WP w A (call (.builtin "tuple.__iter__") [.ref v]) (fun r s'=>r=.ref s.heap.objs.size∧s'={ s with heap:=s.heap.push { cls:=.type "tuple_iterator",data:=.fields #[.ref v,.int 0 0] } }) s:=by
  exists dBi (plainId_quiet PySem.F.slot_tuple_iter.plain _) PySem.F.entry_tuple_iter (.of ?_)
  refine @check_slot (model pw w) _ _ s "tuple.__iter__" "tuple" "__iter__" (.ref v) [] [] _ (by decide +kernel) (by decide +kernel) (I.type.andThen (looks_subIn X (adD _).sub)) (PySem.F.args_tuple_iter_1 (.ref v)) ?_
  refine .of ?_
  show wpAny _ _ (do ret (← newFields "tuple_iterator" [.ref v,rawInt 0])) _ _ s
  exact wpAny_bind (wpAny_newObj_type (wpAny_pure ⟨rfl,rfl⟩))
 refine .hold (.bind (.bind (.bind (.of (I.type.here ?_)))))
 refine .lookR (looks_findIn X (anF _)) ?_
 refine .bind (.of (wpAny_askSetting ?_))
 have cont:WP w A (if (Value.builtin "tuple.__iter__" == Value.none)=true then (do
      let r ← (do rule "iter.none"; raiseError "TypeError" s!"'{← typeNameOf (Value.ref v)}' object is not iterable" : Sem Value)
      pure (some r)) else (call (Value.builtin "tuple.__iter__") [Value.ref v] >>= fun r=>pure (some r)))
   (fun a s'=>WP w A (match a with
      | some it=>(do
       let x ← specialOf it "__next__"
       match x with
        | none=>(do rule "iter.non-iterator"; raiseError "TypeError" s!"iter() returned non-iterator of type '{← typeNameOf it}'" : Sem Value)
        | some _=>pure it)
      | none=>(do
       match ← bindSpecialIfBound? (Value.ref v) "__getitem__" with
       | none=>rule "iter.not-iterable"; raiseError "TypeError" s!"'{← typeNameOf (Value.ref v)}' object is not iterable"
       | some _=>rule "iter.getitem-fallback"; newFields "iterator" [Value.ref v,← mkInt 0]:Sem Value)) Q s') s:=by
  refine .bind (hcall.mono fun r s' x=>?_)
  obtain⟨rfl,rfl⟩:=x
  refine .pure ?_
  refine .bind (.of (wpAny_specialOf (T := "tuple_iterator") ⟨_,Heap.get?_push_size _ rfl,rfl⟩ (PySem.F.slot_tuple_iterator_next.lookup) ?_))
  exact .pure h
 split
 ·exact .bind (.pure (.pure cont))
 ·exact⟨adC (aad (aag (aag cont)))⟩
theorem aVw {v d:Addr}{items:Array Value}{elts:List Expr}{x1}{pos:Pos}{Q:Unit→Shared→Prop}(hh:A.handled=none) (H:aa0 s L) (B:Bs w s.heap) (hv:(vwR v d items).P s)
  (h:∀ s',aa0 s' L→WP w A (assignInOrder ((assignEach elts env).map (·.2)) items.toList) Q s')
  (hn:(assignEach elts env).length=items.size) (hstar:(assignEach elts env).findIdx? (·.1)=none):WP w A (assign (.Tuple elts x1 pos) env (.ref v)) Q s:=by
 simp only[arm_assign_Tuple]
 refine .bind (.stand ?_)
 unfold unpack
 rw[hn,hstar]
 refine .bind (.hold ?_)
 obtain⟨⟨n,hx⟩,hd⟩:=id hv
 have hlt:v≠s.heap.objs.size:=Nat.ne_of_lt (Heap.lt_size hx)
 refine .bind ?_
 refine .bind (.bind (.of ((acQ hx hd).type.here ?_)))
 refine .lookR (looks_findIn B.frag (anF _)) ?_
 refine .pure ?_
 refine .bind (.hold (ap9 B hv ?_))
 have hs0:SeqAt (s.heap.push { cls:=.type "tuple_iterator",data:=.fields #[.ref v,.int 0 0] }) v items:=⟨_,Heap.get?_push_of_some _ hx,_,rfl⟩
 refine .bind (.hold (.of (ami hlt items.size 0 _ _ ⟨_,Heap.get?_push_size _ rfl,rfl,rfl⟩ hs0 (by simp +arith) fun h1' hit₁ hs1'=>?_)))
 have hall:List.take items.size (List.drop 0 items.toList)=items.toList:=by
  rw[List.drop_zero]; exact List.take_of_length_le (by simp)
 rw[hall]
 rw[if_neg (by simp)]
 refine .bind (.hold (.of (agd hh hit₁ (hs0.ext hs1'.extBut hlt) (by simp) fun h2'' he2'=>?_)))
 exact .pure (h _ (H.keep (aaO (fun b o e=>he2' b o (Nat.ne_of_lt (Heap.lt_size e)) (hs1'.extBut b o (Nat.ne_of_lt (Heap.lt_size e)) (Heap.get?_push_of_some _ e))) s.toks)))
end
section
variable {w:World}{A:Around}{s s0:Shared}{env:Env}{L:List Res}{ns gs:List Str}{fp:Addr→Prop}{gp:Nat→Prop}
theorem amC {R:Res}{pos:Pos}{Q:Value→Shared→Prop}(H:aa0 s (R::aa5 w fp gp s0::L)) (h:∀ s' d,aa0 s' (R::aa5 w fp gp s0::ab7 w d []::L)→Q (.ref d) s'):WP w A (eval (.Dict [] [] pos) env) Q s:=
 .of (wpAny_Dict_empty (h _ _ (H.made (R':=ab7 w s.heap.objs.size []) (.of (fun J J e=>Heap.get?_push_of_some _ e) rfl rfl ⟨Heap.DictOf.new s.heap,afu (R:=emp) H.bs⟩ aa9 fun J z=>z))))
theorem ajv {vs:List (Option Value)}{kn vn:Str}{p1 p2 pos:Pos}{k:Option Str}{t:Tok}{v:Value}{Q:Value→Shared→Prop}(i j:Nat) (F:aa8 env ns gs) (H:aa0 s (aa1 env.locals (aal ns vs)::aa5 w fp gp s0::L)) (hk:vs[i]? = some (some (acb k t))) (hv:vs[j]? = some (some v))
  (h:∀ s' d,aa0 s' (aa1 env.locals (aal ns vs)::aa5 w fp gp s0::ab7 w d [(k,v)]::L)→Q (.ref d) s') (hx:ns[i]? = some kn:=by rfl) (hy:ns[j]? = some vn:=by rfl):WP w A (eval (.Dict [some (.Name kn p1)] [.Name vn p2] pos) env) Q s:=by
 have H1:=H.made (R':=ab7 w s.heap.objs.size []) (s':={ s with heap:=s.heap.push { cls:=.type "dict",data:=.dict #[] } }) (.of (fun J J e=>Heap.get?_push_of_some _ e) rfl rfl ⟨Heap.DictOf.new s.heap,afu (R:=emp) H.bs⟩ aa9 fun J z=>z)
 refine .of (wpAny_Dict_pairs (knd:=acy w) (pairs:=[(eval (.Name kn p1) env,do let x ← eval (.Name vn p2) env; standAt pos; pure x)]) rfl (by simp) (by simp) ?_)
 refine evalPairs_cons (ldL i F H1 hk (wpAny_bind (ldL j F H1 hv (wpAny_bind (wpAny_standAt (wpAny_pure (evalPairs_nil ?_)) )) hy)) hx)
 refine⟨[(k,v)],⟨ad8 k t,rfl,trivial⟩,Heap.DictOf.new s.heap,fun h' hm hs=>?_⟩
 exact h _ _ (H1.updAt [_,_] (R':=ab7 w s.heap.objs.size [(k,v)]) (aaB hs _ rfl rfl rfl rfl ⟨hm,(H1.at [_,_]).2⟩))
theorem aeM {k:Option Str}{t:Tok}{Q:Value→Shared→Prop}(h:Q (.bool k.isSome) s):WP w A (compareOp .IsNot (acb k t) .none) Q s:=.of (isNot_none (by cases k<;>exact h))
end
noncomputable def ajx (c:Nat) (l:List (Int × Int)):List (Int × Int):=l.map fun p=>(p.1,p.2.fdiv c)
noncomputable def shw (v:VI) (g:afY):abD:=match v.name with | some n=>[(some n,g)] | none=>[]
noncomputable def abk (v:VI) (abs:List (Int × Int)):List abD:=
 if v.count=1 then (if (v.min:Int)≤tot abs then [shw v (.ms (aeu abs))] else [])
 else if (abs.all fun p=>p.2.fmod v.count==0)=true then (if (v.min:Int)≤tot (ajx v.count abs) then [shw v (.ms (aeu (ajx v.count abs)))] else []) else []
noncomputable def aaY (v:VI) (abs:List (Int × Int)):List abD:=
 if tot abs=0∧v.dflt.isSome=true then [[(v.name,.dft (v.dflt.getD ""))]] else abk v abs
theorem apG {l:List (Int × Int)}{k c:Int}(h:∀ q∈l,q.1≠k) (hc:0<c):upd l k c=l++[(k,c)]:=by
 unfold upd
 rw[if_neg,if_pos hc]
 intro hx
 obtain⟨q,mq,e⟩:=List.any_eq_true.mp hx
 exact h q mq (by simpa using e)
theorem ahy {c:Int}{n:Nat}(hc:0<c) (hn:0<n) (hm:c.fmod n=0):0<c.fdiv n:=by
 have h1:=Int.mul_fdiv_add_fmod c n
 rw[hm] at h1
 have hn':(0:Int)<n:=by lia
 by_cases h:0<c.fdiv n
 ·exact h
 ·have:(n:Int) * c.fdiv n≤0:=Int.mul_nonpos_of_nonneg_of_nonpos (Int.le_of_lt hn') (by omega)
  omega
theorem am2 {l:List (Int × Int)}{n:Nat}(h:aco l) (hn:0<n) (hd:∀ p∈l,p.2.fmod n=0):aco (ajx n l):=by
 refine⟨?_,fun p m=>?_,fun p m=>?_⟩
 ·unfold ajx
  rw[List.map_map]
  exact h.nd
 ·obtain⟨q,mq,rfl⟩:=List.mem_map.mp m
  exact h.ks q mq
 ·obtain⟨q,mq,rfl⟩:=List.mem_map.mp m
  exact ahy (h.pos q mq) hn (hd q mq)
theorem ado {l:List (Int × Int)}(h:∀ p∈l,0<p.2∧p.2≤4):0≤tot l∧tot l≤4 * l.length:=by
 induction l with
 | nil=>exact⟨Int.le_refl 0,Int.le_refl 0⟩
 | cons p r ih=>
  have h1:=h p (.head _)
  have h2:=ih fun q m=>h q (.tail _ m)
  show 0≤p.2+tot r∧p.2+tot r≤4 * ((r.length+1:Nat):Int)
  lia
theorem ale {c:Int}{n:Nat}(hc:0<c∧c≤4) (hn:n∈[1,2,3]):c.fdiv n≤4:=by
 have h:∀ c∈[(1:Nat),2,3,4],∀ n∈[(1:Nat),2,3],((c:Nat):Int).fdiv (n:Nat)≤4:=by decide
 have h2:=h c.toNat (by simp only[List.mem_cons,List.not_mem_nil,or_false]; grind) n hn
 rwa [show ((c.toNat:Nat):Int)=c by grind] at h2
section
variable {w:World}{s s0:Shared}{L:List Res}{R0' Fr P:Res}{mv:Ms}
theorem aeU {o:abD}{d:Addr}{kvs:List (Option Str × Value)}{gs2:GenState}{dd uu:Nat}(H:aa0 s (Fr::aa5 w (aae [R0',msR mv]).fp (aae [R0',msR mv]).gp s0::ab7 w d kvs::P::msR mv::L)) (hL:abq L) (hFr:abq [Fr,P])
  (h1:kvs.length≤3) (h2:(kvs.map (·.1)).Nodup) (h3:∀ s₁:Shared,P.P s₁→(msR mv).P s₁→ac6 s₁.heap o kvs) (hgs:∀ A' QR QY s'',QR s''→acd w A' gs2 QR QY s''):PY w dd uu (amL w mv) [o] R0' () s0 (.ref d) gs2 s:=by
 have H3:=(aa0.sep (L:=[_,_,_])).mpr (((aa0.sep (L:=[_,_])).mpr (H.pick [0,3,1,2,4] 5)).pick [0,2,3,1] 4)
 refine⟨_,_,(),trivial,⟨d,kvs,rfl,rfl,h1,h2,fun s₁ hR hmv=>?_⟩,aaq.of ((((aa0.sep (L:=[_,_])).mpr (H.pick [0,3,1,2,4] 5)).pick [1,0] 2).freeK [] []) fun A' rA x' s3 HH=>?_,(H3.pick [1,0] 2).turn hL⟩
 ·have h1:aaf s₁ [Fr,P]:=hR
  exact h3 s₁ h1.2.2.1 hmv
 ·have G2:=(aa0.sep (L:=[_,_])).mpr (HH.pick [1,2,0] 3)
  exact hgs _ _ _ _ ⟨_,x',⟨aba hFr,trivial⟩,trivial,rfl,(G2.pick [1,0] 2).turn trivial⟩
end
noncomputable def DV:Stmt:=at' (ifE (at' (aaa (D 7)) 2)) 1
section
variable {w:World}{A:Around}{s s0:Shared}{env:Env}{L:List Res}{fp:Addr→Prop}{gp:Nat→Prop}
inductive atk (mv m0:Ms) (v:VI) (env:Env) (v1 v2:Option Value) (t:Tok) (v4 v5:Option Value) (w:World) (fp:Addr→Prop) (gp:Nat→Prop) (s0:Shared) (D:List Fz) (it la:Addr) (L:List Res) (n:Nat) (s':Shared):Prop
 | mk (i m v7 v8):n=mv.abs.length - i→i≤mv.abs.length→m.x=m0.x→(∀ p∈mv.abs.take i,p.2.fmod v.count=0)→m.abs=ajx v.count (mv.abs.take i)→aa0 s' (aa1 env.locals (aal adN [some (.ref mv.x),v1,v2,some (.int v.count t),v4,v5,some (.ref m0.x),v7,v8])::aa5 w fp gp s0::fzR D::abx it la i::msR m::msR mv::L)→atk mv m0 v env v1 v2 t v4 v5 w fp gp s0 D it la L n s'
theorem amV {v:VI}{mv m0:Ms}{v4 v5:Option Value}{t:Tok}{Q:Flow→Shared→Prop}(r:aah A 2 10) (F:aa8 env adN am3) (hc:v.count∈[1,2,3]) (hn:aco mv.abs) (hr:mv.rows.length≤100) (h0:m0.abs=[])
  (v0 v1 v2:Option Value) (h00:v0=some (.ref mv.x))
  (H:aa0 s (aa1 env.locals (aal adN [v0,v1,v2,some (.int v.count t),v4,v5,some (.ref m0.x),none,none])::aa5 w fp gp s0::msR m0::msR mv::L))
  (h:∀ s' m D v7 v8,aa0 s' (aa1 env.locals (aal adN [v0,v1,v2,some (.int v.count t),v4,v5,some (.ref m.x),v7,v8])::aa5 w fp gp s0::msR m::msR mv::fzR D::L)→(∀ p∈mv.abs,p.2.fmod v.count=0)→m.abs=ajx v.count mv.abs→Q .next s')
  (h':∀ s' m D v7 v8,aa0 s' (aa1 env.locals (aal adN [v0,v1,v2,some (.int v.count t),v4,v5,some (.ref m.x),v7,v8])::aa5 w fp gp s0::msR m::msR mv::fzR D::L)→(∃ p∈mv.abs,p.2.fmod v.count≠0)→Q (.ret .none) s'):WP w A (exec DV env) Q s:=by
 subst h00
 have hc0:0<v.count∧v.count≤10:=abd _ hc
 exists 0,aem ?_,agh (r.mono (by exact lb rfl) (by exact lb rfl)) ?_,dL 0 F H rfl ⟨mv,_,_,_,rfl,ahx (H.at [_,_,_]),hr,H.bs,H,fun s vv D H hd=>?_⟩
 obtain⟨la,items,rfl,hla,hds⟩:=hd.lst
 have hlist:∀ {s:Shared},(fzR D).P s→s.heap.IsList la items:=fun {s} h=>(show s.heap.PlainList la items from aas h _ hla).isList
 exists aaM (hlist (H.at [_,_])) H fun s it H=>?_
 have hll:items.size=mv.abs.length:=by have:=hds.length; simpa using this
 replace H:=aa0.pick [0,1,3,2,4,5] 6 H
 exists abB (I:=atk mv m0 v env v1 v2 t v4 v5 w fp gp s0 D it la L) (fun n s' hI=>?_) _ ⟨0,m0,none,none,rfl,Nat.zero_le _,rfl,(fun J q=>by simp at q),(by rw[h0]; rfl),H⟩
 obtain⟨i,m,v7,v8,en,hi,hx,hdv,ha,H⟩:=hI
 cases hr:mv.abs[i]? with
 | none=>
  have hlen:=List.getElem?_eq_none_iff.mp hr
  exists abF [_,_,_] r.handled H (hlist (H.at [_,_])) (by rw[Array.getElem?_eq_none_iff]; exact q11 ‹_› ‹_› ‹_›) fun s₂ H2=>?_
  have et:mv.abs.take i=mv.abs:=List.take_of_length_le hlen
  rw[et] at hdv ha
  rw[← hx] at H2
  exact h s₂ m D _ _ (aa0.cut 1 (H2.pick [3,0,1,4,5,2] 6)) hdv ha
 | some p=>
  have hlt:=(List.getElem?_eq_some_iff.mp hr).1
  have hpe:mv.abs[i] = p:=by rw[List.getElem?_eq_getElem hlt] at hr; exact Option.some.inj hr
  obtain⟨x,hxi,hxd⟩:=hds.get (i:=i) (y:=pD p) (by rw[List.getElem?_map,hr]; rfl)
  obtain⟨T,tk,tc,rfl,hT⟩:=af4 hxd
  exists aaN [_,_,_] H (hlist (H.at [_,_])) (by simpa using hxi) fun s₂ H=>?_
  refine aa0.lt H ?_; intro T' H
  exists amm (H.at [_,_,_]) ?_,aoM r.handled (show s₂.heap.IsTuple T _ from aas (H.at [_,_]) _ hT) H fun s₂ H=>?_,aaV ?_,aS 7 F H rfl fun s₂ H=>?_,aaV ?_,aS 8 F H rfl fun s₂ H=>?_,aiL ?_,aa7 ?_,dIf ?_,abS ?_,abG ?_
  refine dL 8 F H rfl ?_
  exists dL 3 F H rfl ?_
  refine akE H (by exact q66 ‹_›) fun s t1 H=>?_
  exists aaW H fun s t2 H=>?_,dNe ?_,tB ?_
  by_cases hm:p.2.fmod v.count=0
  ·refine ifN ((by simp[hm])) ?_
   refine aaL ?_
   refine aa7 ?_
   refine adm ?_
   refine abG ?_
   refine dL 8 F H rfl ?_
   refine dL 3 F H rfl ?_
   refine aiI H (by exact q66 ‹_›) (by lia) fun s t3 H=>?_
   refine dL 6 F H rfl ?_
   refine dL 7 F H rfl ?_
   rw[← hx]
   rw[← hx] at H
   have hml:m.rows.length≤100:=by
    have h1:=congrArg List.length ha
    unfold Ms.abs ajx at h1
    simp only[List.length_map,List.length_take] at h1
    have:mv.rows.length=mv.abs.length:=by unfold Ms.abs; simp
    lia
   exists anH [_,_] (r.mono (by exact lb rfl) (by exact lb rfl)) H hml fun s m' H g1 g2=>?_,aaL ?_
   have hnew:∀ q∈m.abs,q.1≠p.1:=fun q mq e=>by
    rw[ha] at mq
    obtain⟨q',mq',rfl⟩:=List.mem_map.mp mq
    obtain⟨j,hj,e'⟩:=List.mem_iff_getElem.mp mq'
    rw[List.length_take] at hj
    rw[List.getElem_take] at e'
    have nd:=hn.nd
    have hj2:j<mv.abs.length:=by grind
    have k1:(mv.abs.map Prod.fst)[j]'(by simpa using hj2)=(mv.abs.map Prod.fst)[i]'(by simpa using hlt):=by
     simp only[List.getElem_map,List.getElem_map,hpe,e']
     exact e
    have:=(List.getElem_inj nd).mp k1
    lia
   refine⟨mv.abs.length - (i+1),by exact q1 ‹_› ‹_›,i+1,m',some (.int p.1 tk),some (.int p.2 tc),rfl,hlt,g1.trans hx,fun q mq=>?_,?_,?_⟩
   ·rw[List.take_add_one,hr] at mq
    rcases List.mem_append.mp mq with mq | mq
    ·exact hdv q mq
    ·simp at mq
     rw[mq]; exact hm
   ·rw[g2,apG hnew (ahy (hn.pos p (List.mem_of_getElem? hr)) hc0.1 hm),ha,List.take_add_one,hr]
    unfold ajx
    simp only[List.map_append]
    rfl
   ·rw[← hx]; exact H
  ·refine ifP ((by simpa using hm)) ?_
   rw[← hx] at H
   exact aa7 (afM (h' _ m D _ _ (aa0.cut 1 (H.pick [3,0,1,4,5,2] 6)) ⟨p,(List.mem_of_getElem? hr),hm⟩))
end
noncomputable def aiJ (v:VI) (val:Value):List (Option Str × Value):=match v.name with | some n=>[(some n,val)] | none=>[]
theorem amB {h:Heap}{v:VI}{m:Ms}(hn:aco m.abs) (hm:afS m h):ac6 h (shw v (.ms (aeu m.abs))) (aiJ v (.ref m.x)):=by
 unfold shw aiJ
 cases v.name with
 | none=>trivial
 | some n=>exact⟨rfl,⟨m,rfl,hm,hn,rfl⟩,trivial⟩
theorem afV {v:VI}{n:Str}{val:Value}(h:v.name=some n):aiJ v val=[(v.name,val)]:=by unfold aiJ; rw[h]
theorem ahh (v:VI) (val:Value):(aiJ v val).length≤3:=by unfold aiJ; cases v.name<;>simp
theorem aiR (v:VI) (val:Value):((aiJ v val).map (·.1)).Nodup:=by unfold aiJ; cases v.name<;>simp
theorem ahz (m:Ms):∀ g,(msR m).gp g→False:=fun g x=>aiW [m] g ⟨_,.head _,x⟩
theorem asq {w:World}{s s0:Shared}{L:List Res}{R0' Fr:Res}{mv:Ms}(H:aa0 s (Fr::aa5 w (aae [R0',msR mv]).fp (aae [R0',msR mv]).gp s0::msR mv::L)) (hL:abq (Fr::L)):PR (amL w mv) [] R0' () s0 s:=by
 have H2:=(aa0.sep (L:=[_,_])).mpr (aa0.pick [0,3,2,1] 4 (aa0.emp.mp H))
 exact⟨emp,(),⟨fun J z=>z,trivial⟩,trivial,rfl,(H2.pick [1,0,2] 3).turn hL⟩
section
variable {w:World}{env:Env}
noncomputable abbrev anX (env:Env) (v:VI) (mv:Ms) (v6 v7 v8:Option Value):Res:=aa1 env.locals (aal adN [some (.ref mv.x),some (.ref v.a),some (acb v.name v.tn),some (.int v.count v.tc),some (.int v.min v.tm),some (acb v.dflt v.td),v6,v7,v8])
noncomputable abbrev atu (env:Env):Flow→Sem PySem.Fin:=KF
noncomputable abbrev atR (env:Env):Value→Sem PySem.Fin:=HF env
theorem adY {A:Around}{s s0:Shared}{L:List Res}{R0':Res}{v:VI}{mv:Ms}(r:aah A 20 80) (F:aa8 env adN am3) (hco:env.scope.isCoroutine=false) (hc:v.count∈[1,2,3]) (hn:aco mv.abs) (h4:∀ p∈mv.abs,p.2≤4) (hL:abq L)
  (H:aa0 s (anX env v mv none none none::aa5 w (aae [R0',msR mv]).fp (aae [R0',msR mv]).gp s0::msR mv::L)) :
  GP w A (.func (aaa (D 7)) env) [] ((execs ((aaa (D 7)).drop 2) env).wrap (atu env) (atR env) id id) (PR (amL w mv) (abk v mv.abs) R0' () s0) (PY w 20 80 (amL w mv) (abk v mv.abs) R0' () s0) s:=by
 have r':aah (A.over (.func (aaa (D 7)) env) []) 19 77:=r.over
 have hc0:0<v.count∧v.count≤10:=abd _ hc
 have hlen4:=hn.len
 have hrows:mv.rows.length≤100:=by have h1:=hlen4; unfold Ms.abs at h1; simp at h1; exact q50 ‹_›
 have hb:0≤tot mv.abs∧tot mv.abs≤100:=by
  have:=ado (l:=mv.abs) fun p m=>⟨hn.pos p m,h4 p m⟩
  exact q12 ‹_› ‹_›
 unfold abk
 exists gCI ?_,tLI 3 F H rfl fun s t H=>?_,0,tEq ?_
 by_cases h1:v.count=1
 ·rw[if_pos (by rw[h1]; rfl),if_pos h1]
  exists gCI ?_,abS ?_,aaj 0 2 F H ?_,spL 0 F H rfl ?_,aa6 ?_
  refine ajQ (r'.mono (by exact lb rfl) (by exact lb rfl)) H (ahx (H.at [_,_])) hb fun s t H=>?_
  refine aa0.lt H ?_; intro T' H
  exists 0
  exists dL 4 F H rfl ?_,dGe ?_,tB ?_
  by_cases h2:(v.min:Int)≤tot mv.abs
  ·rw[if_pos (by simpa using h2),if_pos h2]
   have yl:∀ {s:Shared} {d:Addr},aa0 s (anX env v mv none none none::aa5 w (aae [R0',msR mv]).fp (aae [R0',msR mv]).gp s0::ab7 w d (aiJ v (.ref mv.x))::msR mv::L)→∀ gs2,(∀ A' QR QY s'',QR s''→acd w A' gs2 QR QY s'')→PY w 20 80 (amL w mv) [shw v (.ms (aeu mv.abs))] R0' () s0 (.ref d) gs2 s:=fun {s d} H gs2 hgs=>
    aeU (P:=emp) (aa0.pick [1,2,3,0,4] 5 (aa0.emp.mp H)) hL ⟨fun J z=>z,fun J z=>z,trivial⟩ (ahh v _) (aiR v _) (fun s₁ J hmv=>amB hn (ahx hmv)) hgs
   exists abe ?_,abn rfl rfl rfl hco F.inter ?_,anZ ?_,abS ?_,dL 2 F H rfl ?_,ad5 ?_,aeM ?_,tB ?_
   cases hnm:v.name with
   | some n=>
    refine ifP ((show (some n).isSome=true from rfl)) ?_
    exists ajv 2 0 F H rfl rfl fun s d H=>?_
    intro gs2 hgs
    exact yl (by rw[afV hnm]; exact H) gs2 fun A' QR QY s'' hq=>hgs A' _ _ s'' (abK (abK (abK (afm hq))))
   | none=>
    refine ifN ((by decide)) ?_
    exists amC H fun s d H=>?_
    intro gs2 hgs
    exact yl (by unfold aiJ; rw[hnm]; exact H) gs2 fun A' QR QY s'' hq=>hgs A' _ _ s'' (abK (abK (abK (afm hq))))
  ·rw[if_neg (fun x=>h2 (of_decide_eq_true x)),if_neg h2]
   exact abK (abK (abK (afm (asq H ⟨fun J z=>z,hL⟩))))
 ·rw[if_neg (by simp; lia),if_neg h1]
  exists gCW ?_
  refine ac8 ?_
  exists afK 1 0 F H (ajS _) (ah2 _) ?_,apt (r'.mono (by exact lb rfl) (by exact lb rfl)) H.bs fun s m0 mk ha=>?_
  replace H:=H.made mk
  refine sL 6 F H rfl fun s H=>?_
  refine abe ?_
  refine ag0 ?_
  refine amV (v:=v) (mv:=mv) (m0:=m0) (r'.mono (by exact lb rfl) (by exact lb rfl)) F hc hn hrows ha _ _ _ rfl H (fun s m D v7 v8 H hdv hab=>?_) (fun s m D v7 v8 H hbad=>?_)
  ·rw[if_pos (List.all_eq_true.mpr fun p mp=>by simpa using hdv p mp)]
   have nm:aco m.abs:=by rw[hab]; exact am2 hn hc0.1 hdv
   have hmb:0≤tot m.abs∧tot m.abs≤100:=by
    have hl2:=nm.len
    have:=ado (l:=m.abs) fun p mp=>⟨nm.pos p mp,by
     rw[hab] at mp
     obtain⟨q,mq,rfl⟩:=List.mem_map.mp mp
     exact ale ⟨hn.pos q mq,h4 q mq⟩ hc⟩
    exact q12 ‹_› ‹_›
   rw[← hab]
   exists gCI ?_,abS ?_
   refine aaj 0 2 F H ?_
   exists spL 6 F H rfl ?_,aa6 ?_
   refine ajQ (r'.mono (by exact lb rfl) (by exact lb rfl)) H (ahx (H.at [_,_])) hmb fun s t H=>?_
   exists 0
   exists dL 4 F H rfl ?_,dGe ?_,tB ?_
   by_cases h2:(v.min:Int)≤tot m.abs
   ·rw[if_pos (by simpa using h2),if_pos h2]
    have yl:∀ {s:Shared} {d:Addr},aa0 s (anX env v mv (some (.ref m.x)) v7 v8::aa5 w (aae [R0',msR mv]).fp (aae [R0',msR mv]).gp s0::ab7 w d (aiJ v (.ref m.x))::msR m::msR mv::fzR D::L)→∀ gs2,(∀ A' QR QY s'',QR s''→acd w A' gs2 QR QY s'')→PY w 20 80 (amL w mv) [shw v (.ms (aeu m.abs))] R0' () s0 (.ref d) gs2 s:=fun {s d} H gs2 hgs=>
     aeU (P:=msR m) H ⟨abp D,hL⟩ ⟨fun J z=>z,ahz m,trivial⟩ (ahh v _) (aiR v _) (fun s₁ hm J=>amB nm (ahx hm)) hgs
    exists abe ?_,abn rfl rfl rfl hco F.inter ?_,anZ ?_
    refine abS ?_
    exists dL 2 F H rfl ?_,ad5 ?_,aeM ?_,tB ?_
    cases hnm:v.name with
    | some n=>
     refine ifP ((show (some n).isSome=true from rfl)) ?_
     exists ajv 2 6 F H rfl rfl fun s d H=>?_
     intro gs2 hgs
     exact yl (by rw[afV hnm]; exact H) gs2 fun A' QR QY s'' hq=>hgs A' _ _ s'' (abK (abK (abK (afm hq))))
    | none=>
     refine ifN ((by decide)) ?_
     exists amC H fun s d H=>?_
     intro gs2 hgs
     exact yl (by unfold aiJ; rw[hnm]; exact H) gs2 fun A' QR QY s'' hq=>hgs A' _ _ s'' (abK (abK (abK (afm hq))))
   ·rw[if_neg (fun x=>h2 (of_decide_eq_true x)),if_neg h2]
    exact abK (abK (abK (afm (asq (H.pick [0,1,3,2,4] 5) ⟨fun J z=>z,ahz m,abp D,hL⟩))))
  ·rw[if_neg (fun hx=>by
    obtain⟨p,mp,hp⟩:=hbad
    exact hp (by simpa using List.all_eq_true.mp hx p mp))]
   exact afm (asq (H.pick [0,1,3,2,4] 5) ⟨fun J z=>z,ahz m,abp D,hL⟩)
theorem agz {v:VI}{mv:Ms}(F:aa8 env adN am3) (hco:env.scope.isCoroutine=false) (hc:v.count∈[1,2,3]) (hn:aco mv.abs) (h4:∀ p∈mv.abs,p.2≤4)
  (hf:freeK (aae [aa1 env.locals (aal adN [some (.ref mv.x),some (.ref v.a),none,none,none,none,none,none,none]),v.R])) :
  aaq w 20 80 (amL w mv) (aaY v mv.abs) (.fresh (.func (aaa (D 7)) env)) (aae [aa1 env.locals (aal adN [some (.ref mv.x),some (.ref v.a),none,none,none,none,none,none,none]),v.R]):=by
 refine aaq.of hf fun A r x s H=>?_
 have H:=aa0.pick [0,2,1,3] 4 ((aa0.sep (L:=[_,_])).mp (H.pick [1,0,2] 3))
 have r':aah (A.over (.func (aaa (D 7)) env) []) 19 77:=r.over
 have hlen4:=hn.len
 have hb:0≤tot mv.abs∧tot mv.abs≤100:=by
  have:=ado (l:=mv.abs) fun p m=>⟨hn.pos p m,h4 p m⟩
  exact q12 ‹_› ‹_›
 exists 0,afj ?_,gCW ?_,apx ?_,dL 1 F H rfl ?_,aVw (items:=v.items) r'.handled H H.bs (H.at [_,_]) (fun s H=>?_) rfl rfl
 exists aaV ?_,aS 2 F H rfl fun s H=>?_,0,aaV ?_,aS 3 F H rfl fun s H=>?_,0,aaV ?_,aS 4 F H rfl fun s H=>?_,0,aaV ?_,aS 5 F H rfl fun s H=>?_,0,aiL ?_
 replace H:=aa0.cut 1 (H.pick [2,0,1,3] 4)
 exists gCI ?_,ahQ ?_,amq ?_
 refine abS ?_
 exists aaj 0 2 F H ?_,spL 0 F H rfl ?_,aa6 ?_
 refine ajQ (r'.mono (by exact lb rfl) (by exact lb rfl)) H (ahx (H.at [_,_])) hb fun s t H=>?_
 exists aaW H fun s t' H=>?_,tEq ?_
 unfold aaY
 by_cases hz:tot mv.abs=0
 ·refine ifP ((by simpa using hz)) ?_
  exists amq ?_
  refine abS ?_
  exists dL 5 F H rfl ?_,ad5 ?_,aeM ?_,tB ?_
  cases hd:v.dflt with
  | some x=>
   rw[if_pos (show (some x).isSome=true from rfl),if_pos ⟨hz,rfl⟩]
   exists agG ?_
   refine ifP ((show true=true from rfl)) ?_
   exists abe ?_
   refine abn rfl rfl rfl hco F.inter ?_
   exists ajv 2 5 F H rfl rfl fun s d H=>?_
   intro gs2 hgs
   exact aeU (L:=[]) (P:=emp) (aa0.pick [1,2,3,0,4] 5 (aa0.emp.mp H)) trivial ⟨fun J z=>z,fun J z=>z,trivial⟩ (by simp) (by simp) (fun s₁ J hmv=>⟨rfl,⟨v.td,by rw[hd]; rfl⟩,trivial⟩) (fun A' QR QY s'' hq=>hgs A' _ _ s'' (abe (ag0 (afM (afm hq)))))
  | none=>
   rw[if_neg (show ¬ ((none:Option Str).isSome=true) from by decide),if_neg (show ¬ (tot mv.abs=0∧(none:Option Str).isSome=true) from fun h=>absurd h.2 (by decide))]
   exact abK (adY (L:=[]) r F hco hc hn h4 trivial H)
 ·rw[if_neg (by simpa using hz),if_neg (show ¬ (tot mv.abs=0∧v.dflt.isSome=true) from fun h=>hz h.1)]
  exact abK (adY (L:=[]) r F hco hc hn h4 trivial H)
end
theorem aiG {s:Shared}{M:List Res}{R:Res}(h:aaf s (M++[R])):R.P s:=(aaf.append.mp h).2.1.1
theorem anp {w:World}{mv:Ms}{E E':Res→Prop}{o:abD}{v:Value}{M:List Res}{R RY:Res}(h:(ar1 w mv E).view o v R RY):(ar1 w mv E').view o v (aae (M++[R])) RY:=by
 obtain⟨d,kvs,a,b,c,e,f⟩:=h
 exact⟨d,kvs,a,b,c,e,fun s₁ hR hmv=>f s₁ (aiG (show aaf s₁ (M++[R]) from hR)) hmv⟩
section
variable {w:World}{env:Env}
theorem ait {v:VI}{lv:Addr}{mv:Ms}(F:aa8 env aaZ agJ) (hco:env.scope.isCoroutine=false) (hc:v.count∈[1,2,3]) (hn:aco mv.abs) (h4:∀ p∈mv.abs,p.2≤4)
  (hf:freeK (aae [aa1 env.locals (aal aaZ [some (.ref mv.x),some (.ref lv),none,none,none,none,none,none,none]),aat none,plR 280 #[],aaQ lv [v]])) :
  aaq w 60 230 (akC w mv) (aaY v mv.abs) (.fresh (.func (aaa (D 8)) env)) (aae [aa1 env.locals (aal aaZ [some (.ref mv.x),some (.ref lv),none,none,none,none,none,none,none]),aat none,plR 280 #[],aaQ lv [v]]):=by
 refine aaq.of hf fun A r x s H=>?_
 have H1:=(aa0.sep (L:=[_,_,_,_])).mp (H.pick [1,0,2] 3)
 have H2:=(aa0.sep (L:=[_,_])).mp (H1.pick [3,0,4,1,2,5] 6)
 have H3:=(aa0.sep (L:=[_])).mp (H2.pick [1,0,2,3,4,5,6] 7)
 have H:=aa0.pick [2,3,1,0,4,5,6] 7 H3
 clear H1 H2 H3
 have r':aah (A.over (.func (aaa (D 8)) env) []) 59 227:=r.over
 exists 0,afj ?_
 refine GP.lt ?_; intro QR' QY'
 exists gCW ?_,akG F H fun s H=>?_,0,gCI ?_,abS ?_
 refine aaj 0 2 F H ?_
 exists spL 1 F H rfl ?_,aa6 ?_
 refine agH H (show s.heap.PlainList lv (acl [v]) from H.at [_,_]).isList (lb rfl) fun s u H=>?_
 exists 0,aaW H fun s t H=>?_,tEq ?_
 refine ifP ((by rfl)) ?_
 exists abe ?_,adh F.inter ?_
 refine acj 1 4 F at0 H ?_
 exists spL 0 F H rfl ?_,aa3 ?_,aeh 1 F H rfl fun s u H=>?_
 refine abu (k:=0) (show s.heap.PlainList lv (acl [v]) from H.at [_,_]).isList rfl (by decide) ?_
 exists aa6 ⟨H.bs,?_⟩
 exists agc (d:=0) (u:=0) (vs:=[some (.ref mv.x),some (.ref v.a),none,none,none,none,none,none,none]) at0 (r'.mono (by exact lb rfl) (by exact lb rfl)) H.bs rfl (BindsTo.of_eq (by kernel_rfl)) (lb rfl) rfl fun env2 a2 g2 s' F2 hco2 m hf2=>?_
 have H5:=((aa0.sep (L:=[_,_,_,_])).mpr (((aa0.sep (L:=[_,_])).mpr (((aa0.sep (L:=[_,_])).mp ((H.made m).pick [2,0,1,3,4,5,6,7] 8)).pick [1,5,0,2,3,4,6,7,8] 9)).pick [2,4,5,6,0,1,3,7] 8)).pick [3,0,2,1,4] 5
 refine⟨a2,g2,rfl,(H5.at [_,_]).1,fun p k' l hk=>?_⟩
 have y:=ahq (S1:=amL w mv) (S2:=akC w mv) (d:=20) (u:=80) (d₂:=60) (u₂:=230) (rest:=[]) id rfl (fun o x v RY y h=>h) (fun o v M R RY h=>anp h) (k':=k') (l:=l) (p:=p) (cF:=.func (aaa (D 8)) env) (fun A r=>(aah.over2 (dd:=1) (uu:=4) (d:=59) (u:=226) r rfl rfl rfl).mono (by exact lb rfl) (by exact lb rfl)) (fun A r R0' x x' s0 s L hx hL H=>?_) _ _ _ (agz (w:=w) (mv:=mv) F2 hco2 hc hn h4 (H5.freeK [] [_,_])) A r _ () _ _ [] trivial H5
 ·rw[List.append_nil,List.map_id] at y
  exact y
 ·rw[hk]
  exists gCW ?_,afM ?_,afm ⟨_,x',⟨aba ?_,trivial⟩,?_,hx,((H.fold [_,_]).turn hL)⟩
  ·exact⟨fun J z=>z,fun J z=>z,fun J z=>z,fun J z=>z,trivial⟩
  ·exact fun s hs=>⟨⟨_,aaf.mem' (show aaf s [_,_,_,_] from hs) (aat none) (by first | exact .head _ | exact .tail _ (.head _) | exact .tail _ (.tail _ (.head _)) | exact .tail _ (.tail _ (.tail _ (.head _))))⟩,⟨_,aaf.mem' (show aaf s [_,_,_,_] from hs) (plR 280 #[]) (by first | exact .head _ | exact .tail _ (.head _) | exact .tail _ (.tail _ (.head _)) | exact .tail _ (.tail _ (.tail _ (.head _))))⟩⟩
end
noncomputable def abw (vs:List VI) (abs:List (Int × Int)):List abD:=match vs with
 | [v]=>aaY v abs
 | vs=>acJ vs abs
structure ajB (vs:List VI) (mv:Ms):Prop where
 l3:1≤vs.length∧vs.length≤3
 nd:(vs.map VI.name).Nodup
 cs:∀ v∈vs,v.count∈[1,2,3]
 nice:aco mv.abs
 le4:∀ p∈mv.abs,p.2≤4
 k3:mv.abs.length≤3
theorem aiy {vs:List VI}(h:1<vs.length) (x:List (Int × Int)):abw vs x=acJ vs x:=by
 obtain _ | ⟨a,_ | ⟨b,l⟩⟩:=vs
 ·exact absurd h (Nat.not_lt_zero 1)
 ·exact absurd h (Nat.lt_irrefl 1)
 ·rfl
theorem asc {w:World}{A:Around}{s s0:Shared}{L:List Res}{fp:Addr→Prop}{gp:Nat→Prop}{R₁:Res}{vs:List VI}{lv:Addr}{mv:Ms}{Q:Value→Shared→Prop}(r:aah A 1 3) (ok:ajB vs mv)
  (H:aa0 s (R₁::aa5 w fp gp s0::aat none::plR 280 #[]::aaQ lv vs::L))
  (h:∀ s' a g gs R,aa0 s' (R₁::aa5 w fp gp s0::aak a g false gs::R::L)→aaq w 60 230 (akC w mv) (abw vs mv.abs) gs R→Q (.ref a) s'):WP w A (call (.ref 285) [.ref mv.x,.ref lv]) Q s:=by
 exists ajZ (d:=0) (u:=0) (vs:=[some (.ref mv.x),some (.ref lv),none,none,none,none,none,none,none]) arn (r.mono (by exact lb rfl) (by exact lb rfl)) H.bs rfl (binds:=[("values",.ref mv.x),("variables",.ref lv)]) (BindsTo.of_eq (by kernel_rfl)) (by intro x hx; simp only[List.mem_cons,List.not_mem_nil,or_false] at hx; rcases hx with rfl | rfl; exact .head _; exact .tail _ (.head _)) (fun y=>?_) fun env a g s' F hco hcode m=>?_
 ·exact aay ["values", "variables"] [.ref mv.x,.ref lv] _ [none,none,none,none,none,none,none] y (arn.env 0 0).nd rfl (fun z hz=>by simpa using hz)
 refine h s' a g _ _ (((aa0.sep (L:=[_,_,_,_])).mpr (((aa0.sep (L:=[_,_])).mp ((H.made m).pick [2,0,1,3,4,5] 6)).pick [1,4,5,6,2,3,0] 7)).pick [1,2,3,0] 4) ?_
 have hf:=(((aa0.sep (L:=[_,_,_,_])).mpr (((aa0.sep (L:=[_,_])).mp ((H.made m).pick [2,0,1,3,4,5] 6)).pick [1,4,5,6,2,3,0] 7)).pick [1,2,3,0] 4).freeK [_] [_]
 rcases Nat.lt_or_ge 1 vs.length with h1 | h1
 ·have h23:vs.length=2∨vs.length=3:=(Nat.lt_or_eq_of_le ok.l3.2).imp (fun h=>Nat.le_antisymm (Nat.le_of_lt_succ h) h1) id
  simp only[aiy h1]
  exact aii F hco hcode ⟨h23,ok.nd,ok.cs,ok.nice,ok.le4,ok.k3⟩ hf
 ·obtain⟨v,rfl⟩:=List.length_eq_one_iff.mp (Nat.le_antisymm h1 ok.l3.1)
  exact ait F hco (ok.cs v (.head _)) ok.nice ok.le4 hf
end
noncomputable def ady {α:Type}(lt:Nat→Nat→Bool):KasT α→α
 | .ret a=>a
 | .ask i j k=>ady lt (k (lt i j))
theorem abR {α β:Type}(lt:Nat→Nat→Bool) (f:α→KasT β):∀ t:KasT α,ady lt (t.bind f)=ady lt (f (ady lt t))
 | .ret a=>rfl
 | .ask i j k=>abR lt f (k (lt i j))
section
variable (r:Nat→Int)
noncomputable def vl (p:Array Nat) (k:Nat):Int:=r (p.getD k 0)
noncomputable def rlt (i j:Nat):Bool:=decide (r i<r j)
noncomputable def ord (R:Int→Int→Prop) (p:Array Nat) (k:Nat):Prop:=∀ i j,i≤j→j<k→R (vl r p i) (vl r p j)
noncomputable def srt (p:Array Nat) (k:Nat):Prop:=ord r (·≤·) p k
noncomputable def nin (p:Array Nat) (k:Nat):Prop:=ord r (·≥·) p k
variable {r}
theorem ak1 {i j:Nat}(h:rlt r i j=true):r i<r j:=of_decide_eq_true h
theorem aeJ {i j:Nat}(h:¬ rlt r i j=true):r j≤r i:=Int.not_lt.mp fun x=>h (decide_eq_true x)
theorem akd {p q:Array Nat}{i j:Nat}(h:p[i]? = q[j]?):vl r p i=vl r q j:=by
 unfold vl
 simp only[Array.getD_eq_getD_getElem?,Array.getD_eq_getD_getElem?,h]
theorem ahs {R:Int→Int→Prop}{p p':Array Nat}{n:Nat}(refl:∀ a,R a a) (trans:∀ {a b c},R a b→R b c→R a c) (hv:∀ k,vl r p' k=vl r p k) (h:ord r R p n) (hle:R (vl r p (n - 1)) (vl r p n)):ord r R p' (n+1):=fun i j hij hj=>by
 simp only[hv,hv]
 rcases Nat.lt_or_ge j n with hjn | hjn
 ·exact h i j hij hjn
 ·obtain rfl:=Nat.le_antisymm (Nat.le_of_lt_succ hj) hjn
  rcases Nat.lt_or_ge i j with hi | hi
  ·exact trans (h i (j - 1) (Nat.le_sub_one_of_lt hi) (Nat.sub_one_lt_of_lt hi)) hle
  ·obtain rfl:=Nat.le_antisymm hij hi
   exact refl _
theorem am4 {p:Array Nat}{n:Nat}:srt r p n→vl r p (n - 1)≤vl r p n→srt r p (n+1):=ahs Int.le_refl Int.le_trans fun J=>rfl
theorem acI {p p':Array Nat}{n:Nat}:(∀ k,vl r p' k=vl r p k)→nin r p n→vl r p n≤vl r p (n - 1)→nin r p' (n+1):=ahs Int.le_refl fun a b=>Int.le_trans b a
structure aqB (r:Nat→Int) (p:Array Nat) (n f m:Nat):Prop where
 srt:srt r p m
 lo:n≤m
 hi:m≤n+f
 out:m<n+f→vl r p m<vl r p (m - 1)
theorem amy {p:Array Nat}(f:Nat):∀ n,1≤n→srt r p n→aqB r p n f (ady (rlt r) (kas_asc p f n)):=by
 induction f with
 | zero=>exact fun n h1 hs=>⟨hs,Nat.le_refl _,Nat.le_refl _,fun h=>absurd h (Nat.lt_irrefl _)⟩
 | succ f ih=>
  intro n h1 hs
  show aqB r p n (f+1) (ady (rlt r) (if rlt r (p.getD n 0) (p.getD (n - 1) 0)=true then .ret n else kas_asc p f (n+1)))
  by_cases hc:rlt r (p.getD n 0) (p.getD (n - 1) 0)=true
  ·rw[if_pos hc]
   exact⟨hs,Nat.le_refl _,Nat.le_add_right _ _,fun J=>ak1 hc⟩
  ·rw[if_neg hc]
   obtain⟨a,b,c,d⟩:=ih (n+1) (Nat.le_succ_of_le h1) (am4 hs (aeJ hc))
   simp only[Nat.succ_add_eq_add_succ n f] at c d
   exact⟨a,Nat.le_of_succ_le b,c,d⟩
theorem acV (p:Array Nat) (i j:Nat):(kas_rev p i j).Perm p:=mirror_perm _ _ _ _
theorem agY {p:Array Nat}{i j:Nat}(hj:j≤p.size) (k:Nat):vl r (kas_rev p i j) k=if i≤k∧k<j then vl r p (i+j - 1 - k) else vl r p k:=by
 have e:=getElem?_mirror_all (xs:=p) (i:=i) hj k
 by_cases h:i≤k∧k<j
 ·rw[if_pos h] at e ⊢; exact akd e
 ·rw[if_neg h] at e ⊢; exact akd e
theorem aka {p:Array Nat}{i j:Nat}(hj:j≤p.size) (heq:∀ k,i≤k→k<j→vl r p k=vl r p (j - 1)) (k:Nat):vl r (kas_rev p i j) k=vl r p k:=by
 rw[agY hj]
 by_cases h:i≤k∧k<j
 ·obtain⟨a,b⟩:=h
  rw[if_pos ⟨a,b⟩,heq k a b]
  have e:i+k≤i+j - 1:=Nat.le_sub_of_add_le (Nat.add_le_add_left b i)
  exact heq _ (Nat.le_sub_of_add_le e) ((Nat.sub_lt_iff_lt_add' (Nat.le_trans (Nat.le_add_left k i) e)).mpr (Nat.lt_of_le_of_lt (Nat.sub_le_sub_right (Nat.add_le_add_right a j) 1) (Nat.sub_lt (Nat.lt_of_lt_of_le (Nat.lt_of_le_of_lt (Nat.zero_le k) b) (Nat.le_add_left j k)) Nat.one_pos)))
 ·rw[if_neg h]
theorem eq0 {v:Nat→Int}{n:Nat}(k:Nat) (a:n+1 - (0+1)≤k) (b:k<n+1):v k=v (n+1 - 1):=congrArg v (Nat.le_antisymm (Nat.le_of_lt_succ b) a)
structure ahE (r:Nat→Int) (p0:Array Nat) (lim:Nat) (x:Array Nat × Nat × Nat):Prop where
 perm:x.1.Perm p0
 size:x.2.1≤lim
 nin:nin r x.1 x.2.1
 q:x.2.2+1≤x.2.1
 eq:∀ k,x.2.1 - (x.2.2+1)≤k→k<x.2.1→vl r x.1 k=vl r x.1 (x.2.1 - 1)
theorem amW {p0:Array Nat}{lim:Nat}(hlim:lim≤p0.size) (f:Nat):∀ (p:Array Nat) (n q:Nat),n+f≤lim→ahE r p0 lim (p,n,q)→ahE r p0 lim (ady (rlt r) (kas_desc f p n q)):=by
 induction f with
 | zero=>exact fun J J J J h=>h
 | succ f ih=>
  intro p n q hn ⟨hp,hs,hni,hq,he⟩
  dsimp only at hp hs hni hq he
  have hn1:n+1+f≤lim:=Nat.le_trans (Nat.le_of_eq (Nat.succ_add_eq_add_succ n f)) hn
  have hn2:n+1≤lim:=Nat.le_trans (Nat.le_add_right _ _) hn1
  have h1:0+1≤n+1:=Nat.succ_le_succ (Nat.zero_le _)
  show ahE r p0 lim (ady (rlt r) (if rlt r (p.getD n 0) (p.getD (n - 1) 0)=true then (if q>0 then kas_desc f (kas_rev p (n - (q+1)) n) (n+1) 0 else kas_desc f p (n+1) 0)
   else .ask (p.getD (n - 1) 0) (p.getD n 0) fun d=>if d=true then .ret (p,n,q) else kas_desc f p (n+1) (q+1)))
  by_cases hc:rlt r (p.getD n 0) (p.getD (n - 1) 0)=true
  ·rw[if_pos hc]
   have hle:=Int.le_of_lt (ak1 hc)
   by_cases hq0:q>0
   ·rw[if_pos hq0]
    exact ih _ (n+1) 0 hn1 ⟨(acV _ _ _).trans hp,hn2,acI (aka (Nat.le_trans hs (hp.size_eq▸hlim)) he) hni hle,h1,eq0⟩
   ·rw[if_neg hq0]
    exact ih _ (n+1) 0 hn1 ⟨hp,hn2,acI (fun J=>rfl) hni hle,h1,eq0⟩
  ·rw[if_neg hc]
   show ahE r p0 lim (ady (rlt r) (if rlt r (p.getD (n - 1) 0) (p.getD n 0)=true then .ret (p,n,q) else kas_desc f p (n+1) (q+1)))
   by_cases hd:rlt r (p.getD (n - 1) 0) (p.getD n 0)=true
   ·rw[if_pos hd]
    exact⟨hp,hs,hni,hq,he⟩
   ·rw[if_neg hd]
    refine ih _ (n+1) (q+1) hn1 ⟨hp,hn2,acI (fun J=>rfl) hni (aeJ hd),Nat.succ_le_succ hq,fun k a b=>?_⟩
    rcases Nat.lt_or_ge k n with hk | hk
    ·exact (he k (Nat.succ_sub_succ n (q+1)▸a) hk).trans (Int.le_antisymm (aeJ hc) (aeJ hd))
    ·exact congrArg _ (Nat.le_antisymm (Nat.le_of_lt_succ b) hk)
structure amd (r:Nat→Int) (p0:Array Nat) (lim:Nat) (x:Nat × Array Nat):Prop where
 perm:x.2.Perm p0
 le:x.1≤lim
 one:1≤x.1
 srt:srt r x.2 x.1
theorem ahL {p0 p:Array Nat}{n lim:Nat}(hlim:lim≤p0.size) (hp:p.Perm p0) (h1:1≤n) (hn:n≤lim) (hs:nin r p n):amd r p0 lim (ady (rlt r) (kas_tail3 n lim p)):=by
 unfold kas_tail3
 rw[abR]
 have hs':srt r (kas_rev p 0 n) n:=fun i j hij hj=>by
  have hz:n≤p.size:=Nat.le_trans hn (hp.size_eq▸hlim)
  rw[agY hz,agY hz,if_pos ⟨Nat.zero_le _,Nat.lt_of_le_of_lt hij hj⟩,if_pos ⟨Nat.zero_le _,hj⟩]
  exact hs _ _ (Nat.sub_le_sub_left hij _) (Nat.lt_of_le_of_lt (Nat.sub_le _ _) (by rw[Nat.zero_add]; exact Nat.sub_lt h1 Nat.one_pos))
 obtain⟨a,b,c,_⟩:=amy (r:=r) (lim - n) n h1 hs'
 exact⟨(acV _ _ _).trans hp,Nat.le_trans c (Nat.le_of_eq (Nat.add_sub_cancel' hn)),Nat.le_trans h1 b,a⟩
theorem aea {p0 p:Array Nat}{n lim:Nat}(hlim:lim≤p0.size) (hp:p.Perm p0) (hn:n+1≤lim) (hs:nin r p (n+1)):amd r p0 lim (ady (rlt r) (kas_descPart n lim p)):=by
 unfold kas_descPart
 rw[abR]
 have D:=amW (r:=r) hlim (lim - (n+1)) p (n+1) 0 (Nat.le_of_eq (Nat.add_sub_cancel' hn)) ⟨hp,hn,hs,Nat.succ_le_succ (Nat.zero_le _),eq0⟩
 generalize ady (rlt r) (kas_desc (lim - (n+1)) p (n+1) 0)=x at D
 obtain⟨p',n',q'⟩:=x
 obtain⟨a,b,d,e,g⟩:=D
 dsimp only at a b d e g ⊢
 have h1:=Nat.le_trans (Nat.succ_le_succ (Nat.zero_le q')) e
 by_cases hq:q'>0
 ·rw[if_pos hq]
  have hv:=aka (r:=r) (Nat.le_trans b (a.size_eq▸hlim)) g
  exact ahL hlim ((acV _ _ _).trans a) h1 b fun i j hij hj=>by simp only[hv,hv]; exact d i j hij hj
 ·rw[if_neg hq]
  exact ahL hlim a h1 b d
theorem alr {p:Array Nat}{n:Nat}(h1:1≤n) (hz:n≤p.size):amd r p n (ady (rlt r) (kas_count n p)):=by
 unfold kas_count
 rw[abR]
 obtain⟨a,b,c,d⟩:=amy (r:=r) (p:=p) (n - 1) 1 (Nat.le_refl 1) fun i j hij hj=>by
  obtain rfl:=Nat.lt_one_iff.mp hj
  rw[Nat.le_zero.mp hij]; exact Int.le_refl _
 simp only[Nat.add_sub_cancel' h1] at c d
 generalize ady (rlt r) (kas_asc p (n - 1) 1)=m at a b c d
 by_cases hm:(m==n)=true
 ·rw[if_pos hm]
  exact⟨Array.Perm.refl _,c,b,a⟩
 ·rw[if_neg hm]
  have hmn:=Nat.lt_of_le_of_ne c fun e=>hm (beq_iff_eq.mpr e)
  have hle:=Int.le_of_lt (d hmn)
  by_cases hg:m>1
  ·rw[if_pos hg]
   show amd r p n (ady (rlt r) (if rlt r (p.getD 0 0) (p.getD (m - 1) 0)=true then .ret (m,p) else kas_descPart m n (kas_rev p 0 m)))
   by_cases hc:rlt r (p.getD 0 0) (p.getD (m - 1) 0)=true
   ·rw[if_pos hc]
    exact⟨Array.Perm.refl _,c,b,a⟩
   ·rw[if_neg hc]
    have hm1:m - 1<m:=Nat.sub_lt b Nat.one_pos
    have heq:∀ k,0≤k→k<m→vl r p k=vl r p (m - 1):=fun k J hk=>Int.le_antisymm (a k (m - 1) (Nat.le_sub_one_of_lt hk) hm1) (Int.le_trans (aeJ hc) (a 0 k (Nat.zero_le _) hk))
    refine aea hz (acV _ _ _) hmn (acI (aka (Nat.le_trans c hz) heq) (fun i j hij hj=>?_) hle)
    show vl r p j≤vl r p i
    simp only[heq i (Nat.zero_le _) (Nat.lt_of_le_of_lt hij hj),heq j (Nat.zero_le _) hj]; exact Int.le_refl _
  ·rw[if_neg hg]
   obtain rfl:=Nat.le_antisymm (Nat.le_of_not_gt hg) b
   exact aea hz (Array.Perm.refl _) hmn (acI (fun J=>rfl) (fun i j hij hj=>by
    obtain rfl:=Nat.lt_one_iff.mp hj
    rw[Nat.le_zero.mp hij]; exact Int.le_refl _) hle)
structure af6 (r:Nat→Int) (p:Array Nat) (k l:Nat):Prop where
 le:l≤k
 low:∀ i,i<l→vl r p i≤vl r p k
 high:∀ i,l≤i→i<k→vl r p k<vl r p i
theorem au7 {l u f:Nat}(hf:u - l≤f+1) (h:l<u):(l+u) / 2 - l≤f∧l≤(l+u) / 2∧(l+u) / 2<u∧u - ((l+u) / 2+1)≤f:=by
 have a:l≤(l+u) / 2:=(Nat.le_div_iff_mul_le Nat.two_pos).mpr (by rw[Nat.mul_two]; exact Nat.add_le_add_left (Nat.le_of_lt h) l)
 have b:(l+u) / 2<u:=(Nat.div_lt_iff_lt_mul Nat.two_pos).mpr (by rw[Nat.mul_two]; exact Nat.add_lt_add_right h u)
 exact⟨Nat.le_of_lt_succ (Nat.lt_of_lt_of_le (Nat.sub_lt_sub_right a b) hf),a,b,Nat.le_of_lt_succ (Nat.lt_of_lt_of_le (Nat.sub_lt_sub_left h (Nat.lt_succ_of_le a)) hf)⟩
theorem akU {p:Array Nat}{k:Nat}(hs:srt r p k) (f:Nat):∀ (l u:Nat),u - l≤f→l≤u→u≤k→(∀ i,i<l→vl r p i≤vl r p k)→(∀ i,u≤i→i<k→vl r p k<vl r p i)→af6 r p k (ady (rlt r) (kas_place p k f l u)):=by
 induction f with
 | zero=>
  intro l u hf hlu hu h1 h2
  obtain rfl:=Nat.le_antisymm hlu (Nat.sub_eq_zero_iff_le.mp (Nat.le_zero.mp hf))
  exact⟨hu,h1,h2⟩
 | succ f ih=>
  intro l u hf hlu hu h1 h2
  show af6 r p k (ady (rlt r) (if l≥u then .ret l else .ask (p.getD k 0) (p.getD ((l+u) / 2) 0) fun c=>if c=true then kas_place p k f l ((l+u) / 2) else kas_place p k f ((l+u) / 2+1) u))
  by_cases hg:l≥u
  ·rw[if_pos hg]
   obtain rfl:=Nat.le_antisymm hlu hg
   exact⟨hu,h1,h2⟩
  ·rw[if_neg hg]
   obtain⟨m1,m2,m3,m4⟩:=au7 hf (Nat.lt_of_not_ge hg)
   show af6 r p k (ady (rlt r) (if rlt r (p.getD k 0) (p.getD ((l+u) / 2) 0)=true then kas_place p k f l ((l+u) / 2) else kas_place p k f ((l+u) / 2+1) u))
   by_cases hc:rlt r (p.getD k 0) (p.getD ((l+u) / 2) 0)=true
   ·rw[if_pos hc]
    exact ih l _ m1 m2 (Nat.le_trans (Nat.le_of_lt m3) hu) h1 fun i hi hik=>Int.lt_of_lt_of_le (ak1 hc) (hs _ _ hi hik)
   ·rw[if_neg hc]
    exact ih _ u m4 m3 hu (fun i hi=>Int.le_trans (hs i _ (Nat.le_of_lt_succ hi) (Nat.lt_of_lt_of_le m3 hu)) (aeJ hc)) h2
theorem aqb {p:Array Nat}{k l:Nat}(hk:k<p.size) (hs:srt r p k) (P:af6 r p k l):srt r (bubble p k (k - l)) (k+1):=by
 obtain⟨a,b,c⟩:=P
 have hbub:∀ i,vl r (bubble p k (k - l)) i=if i=l then vl r p k else if l<i∧i≤k then vl r p (i - 1) else vl r p i:=fun i=>by
  have e:=getElem?_bubble (xs:=p) (src:=k) hk (k - l) (Nat.sub_le _ _) i
  rw[Nat.sub_sub_self a] at e
  split
  ·rename_i h1; rw[if_pos h1] at e; exact akd e
  ·rename_i h1
   rw[if_neg h1] at e
   split
   ·rename_i h2; rw[if_pos h2] at e; exact akd e
   ·rename_i h2; rw[if_neg h2] at e; exact akd e
 intro i j hij hj
 have hjk:=Nat.le_of_lt_succ hj
 show vl r _ i≤vl r _ j
 simp only[hbub,hbub]
 rcases Nat.lt_trichotomy j l with h | rfl | h
 ·rw[if_neg (Nat.ne_of_lt (Nat.lt_of_le_of_lt hij h)),if_neg fun x=>Nat.lt_asymm x.1 (Nat.lt_of_le_of_lt hij h),if_neg (Nat.ne_of_lt h),if_neg fun x=>Nat.lt_asymm x.1 h]
  exact hs _ _ hij (Nat.lt_of_lt_of_le h a)
 ·rw[if_pos rfl]
  split
  ·exact Int.le_refl _
  ·rename_i n
   rw[if_neg fun x=>Nat.not_lt.mpr hij x.1]
   exact b i (Nat.lt_of_le_of_ne hij n)
 ·rw[if_neg (Nat.ne_of_gt h),if_pos (And.intro h hjk)]
  have hj1:j - 1<k:=Nat.lt_of_lt_of_le (Nat.sub_one_lt_of_lt h) hjk
  rcases Nat.lt_trichotomy i l with g | rfl | g
  ·rw[if_neg (Nat.ne_of_lt g),if_neg fun x=>Nat.lt_asymm x.1 g]
   exact hs _ _ (Nat.le_sub_one_of_lt (Nat.lt_trans g h)) hj1
  ·rw[if_pos rfl]
   exact Int.le_of_lt (c _ (Nat.le_sub_one_of_lt h) hj1)
  ·rw[if_neg (Nat.ne_of_gt g),if_pos ⟨g,Nat.le_trans hij hjk⟩]
   exact hs _ _ (Nat.sub_le_sub_right hij 1) hj1
structure ap1 (r:Nat→Int) (p0:Array Nat) (k:Nat) (p:Array Nat):Prop where
 perm:p.Perm p0
 srt:srt r p k
theorem apk {p0:Array Nat}(f:Nat):∀ (p:Array Nat) (k:Nat),k+f≤p0.size→p.Perm p0→srt r p k→ap1 r p0 (k+f) (ady (rlt r) (kas_bin f p k)):=by
 induction f with
 | zero=>exact fun p k J hp hs=>⟨hp,hs⟩
 | succ f ih=>
  intro p k hk hp hs
  show ap1 r p0 (k+(f+1)) (ady (rlt r) ((kas_place p k k 0 k).bind fun l=>kas_bin f (bubble p k (k - l)) (k+1)))
  simp only[abR,← Nat.succ_add_eq_add_succ k f]
  have P:=akU hs k 0 k (Nat.le_refl _) (Nat.zero_le _) (Nat.le_refl _) (fun i hi=>absurd hi (Nat.not_lt_zero _)) fun i h1 h2=>absurd h2 (Nat.not_lt.mpr h1)
  have hk1:k<p.size:=hp.size_eq▸Nat.lt_of_lt_of_le (Nat.lt_add_of_pos_right (Nat.succ_pos f)) hk
  exact ih _ _ (Nat.le_trans (Nat.le_of_eq (Nat.succ_add_eq_add_succ k f)) hk) ((bubble_perm _ _ _).trans hp) (aqb hk1 hs P)
theorem amX (n:Nat) (h1:1≤n):(ady (rlt r) (kas_sort n)).Perm (List.range n).toArray∧srt r (ady (rlt r) (kas_sort n)) n:=by
 unfold kas_sort
 rw[abR]
 have hz:(List.range n).toArray.size=n:=by rw[List.size_toArray,List.length_range]
 have C:=alr (r:=r) (p:=(List.range n).toArray) h1 (Nat.le_of_eq hz.symm)
 generalize ady (rlt r) (kas_count n (List.range n).toArray)=x at C
 obtain⟨m,p⟩:=x
 obtain⟨a,b,c,d⟩:=C
 dsimp only at a b c d ⊢
 by_cases hm:m<n
 ·have e:=Nat.add_sub_cancel' (Nat.le_of_lt hm)
  rw[if_pos hm,Nat.max_eq_left c]
  have B:=apk (n - m) p m (Nat.le_of_eq (e.trans hz.symm)) a d
  rw[e] at B
  exact⟨B.perm,B.srt⟩
 ·rw[if_neg hm]
  obtain rfl:=Nat.le_antisymm b (Nat.le_of_not_lt hm)
  exact⟨a,d⟩
end
section
open PySem.SeqAt
open AutoSeq1 (wpAny_loadPart')
noncomputable def agV (A:Around) (s:Shared) (a b:Value) (c:Bool):Prop:=∀ (prog:Program) (w:World) (E:Value→Shared→Prop) (Q:Value→Shared→Prop),Q (.bool c) s→wpAny (model prog w) A (richCompare .Lt a b) Q E s
inductive agm (A:Around) (s:Shared):List Value→List Value→Bool→Prop
 | nil_nil:agm A s [] [] false
 | nil_cons (y ys):agm A s [] (y::ys) true
 | cons_nil (x xs):agm A s (x::xs) [] false
 | eq {x y xs ys c}:EqAt A s x y true→agm A s xs ys c→agm A s (x::xs) (y::ys) c
 | ne {x y xs ys c}:EqAt A s x y false→agV A s x y c→agm A s (x::xs) (y::ys) c
theorem agV.int {A:Around}{s:Shared}(a b:Int) (t u:Tok):agV A s (.int a t) (.int b u) (decide (a<b)):=fun prog w E Q h=>lt_int h
theorem agV.str {A:Around}{s:Shared}(a b:Str) (t u:Tok):agV A s (.str a t) (.str b u) (decide (a.cps.toList<b.cps.toList)):=fun prog w E Q h=>PyProof.Rows.lt_str h
theorem aid {a:Array Value}{i:Nat}(h:i<a.size):a.toList.drop i=a[i]::a.toList.drop (i+1):=List.drop_eq_getElem_cons (l:=a.toList) h
theorem asU {a:Array Value}{i:Nat}(h:i<a.size):a[((i:Nat):Int).toNat]? = some a[i]:=Array.getElem?_eq_getElem h
theorem asT {a:Array Value}{i:Nat}(h:a.size≤i):a[((i:Nat):Int).toNat]? = none:=Array.getElem?_eq_none_iff.mpr h
theorem agm.fin {A:Around}{s:Shared}{a b:Array Value}{i:Nat}{c:Bool}(h:agm A s (a.toList.drop i) (b.toList.drop i) c) (ha:i≤a.size) (hb:i≤b.size) (e:a.size≤i∨b.size≤i):decide (a.size<b.size)=c:=by
 have l1:(a.toList.drop i).length=a.size - i:=List.length_drop
 have l2:(b.toList.drop i).length=b.size - i:=List.length_drop
 have e:(a.toList.drop i).length=0∨(b.toList.drop i).length=0:=e.imp (fun h=>l1.trans (Nat.sub_eq_zero_of_le h)) fun h=>l2.trans (Nat.sub_eq_zero_of_le h)
 have hlt:(a.size<b.size)↔(a.toList.drop i).length<(b.toList.drop i).length:=by
  simp only[l1,l2]; exact (Nat.sub_lt_sub_iff_right ha).symm
 have e2:decide (a.size<b.size)=decide ((a.toList.drop i).length<(b.toList.drop i).length):=decide_eq_decide.mpr hlt
 rw[e2]
 clear e2 l1 l2 hlt
 generalize a.toList.drop i=xs at h e
 generalize b.toList.drop i=ys at h e
 cases h with
 | nil_nil=>rfl
 | nil_cons=>rfl
 | cons_nil=>rfl
 | eq _ _=>exact (e.elim (fun x=>nomatch x) fun x=>nomatch x)
 | ne _ _=>exact (e.elim (fun x=>nomatch x) fun x=>nomatch x)
theorem apq (l b:Addr) (items items2:Array Value) (n n2:Nat) (dd dd2:Option Addr) (sl sl2:Array (Option Value)) (c:Bool) (k:Nat) :
  ∀ i:Nat,items.size - i=k→i≤items.size→i≤items2.size→Meets (Builtin.«list.__eq__.loop» ⟨[.ref l,.ref b,rawInt i,rawInt 0],[]⟩)
   (fun A R s=>s.heap.get? l=some { cls:=.type "list",dict:=dd,data:=.seq items n,slots:=sl }∧s.heap.get? b=some { cls:=.type "list",dict:=dd2,data:=.seq items2 n2,slots:=sl2 } ∧
    agm A.in1 s (items.toList.drop i) (items2.toList.drop i) c∧R (.ok (.ret (.bool c))) s):=by
 induction k with
 | zero=>
  intro i hk hi hi2 prog w A R s h
  obtain⟨hp,g,d,tk,os⟩:=s; obtain⟨hl,hb,he,h⟩:=h
  have ei:i=items.size:=by lia
  wp_walk using wpAny_loadPart' hl,wpAny_loadPart' hb
  have hc:=he.fin hi hi2 (.inl (Nat.le_of_eq ei.symm))
  rw[asT (Nat.le_of_eq ei.symm)]
  wp_walk using wpAny_loadPart' hl,wpAny_loadPart' hb
  show R (.ok (.ret (.bool (decide (items.size<items2.size))))) _
  rw[hc]
  exact h
 | succ k ih=>
  intro i hk hi hi2 prog w A R s h
  obtain⟨hp,g,d,tk,os⟩:=s; obtain⟨hl,hb,he,h⟩:=h
  have hlt:i<items.size:=by lia
  wp_walk using wpAny_loadPart' hl,wpAny_loadPart' hb
  have hi1:=asU hlt
  have hc:((i:Int)+1)=((i+1:Nat):Int):=by push_cast; rfl
  by_cases hlt2:i<items2.size
  ·have hi22:=asU hlt2
   simp only[aid hlt,aid hlt2] at he
   simp only[hi1,hi22]
   cases he with
   | eq e he=>
    refine wpAny_bind (e prog w _ _ ?_)
    wp_walk
    exact⟨plainId_quiet MeetsSeq3.plain_eq_loop _,codeAny_builtin MeetsSeq3.entry_eq_loop (by
     exact ih (i+1) (by lia) hlt hlt2 prog w A R _ ⟨hl,hb,he,h⟩)⟩
   | ne e he=>
    refine wpAny_bind (e prog w _ _ ?_)
    wp_walk using wpAny_loadPart' hl,wpAny_loadPart' hb
    rw[hi1,hi22]
    refine wpAny_bind (he prog w _ _ ?_)
    wp_walk
    exact h
  ·have hge:=Nat.le_of_not_lt hlt2
   have hc:=he.fin hi hi2 (.inr hge)
   simp only[hi1,asT hge]
   wp_walk using wpAny_loadPart' hl,wpAny_loadPart' hb
   show R (.ok (.ret (.bool (decide (items.size<items2.size))))) _
   rw[hc]
   exact h
theorem agn (l b:Addr) (items items2:Array Value) (n n2:Nat) (dd dd2:Option Addr) (sl sl2:Array (Option Value)) (c:Bool) :
  Meets (Builtin.«list.__lt__» ⟨[.ref l,.ref b],[]⟩)
   (fun A R s=>s.heap.get? l=some { cls:=.type "list",dict:=dd,data:=.seq items n,slots:=sl }∧s.heap.get? b=some { cls:=.type "list",dict:=dd2,data:=.seq items2 n2,slots:=sl2 } ∧
    agm A.in1 s items.toList items2.toList c∧R (.ok (.ret (.bool c))) s):=by
 intro prog w A R s h
 obtain⟨hp,g,d,tk,os⟩:=s; obtain⟨hl,hb,he,h⟩:=h
 have f3:=AutoSeq1.sub_list_list
 wp_walk using wpAny_loadPart' hl,wpAny_loadPart' hb
 exact⟨plainId_quiet MeetsSeq3.plain_eq_loop _,codeAny_builtin MeetsSeq3.entry_eq_loop (by
  exact apq l b items items2 n n2 dd dd2 sl sl2 c _ 0 rfl (Nat.zero_le _) (Nat.zero_le _) prog w A R _ ⟨hl,hb,by simpa using he,h⟩)⟩
theorem agV.list {A:Around}{s:Shared}{l b:Addr}{items items2:Array Value}{c:Bool}(hl:s.heap.IsList l items) (hb:s.heap.IsList b items2) (hu:A.units<cLine) (he:agm A.in1 s items.toList items2.toList c):agV A s (.ref l) (.ref b) c:=fun prog w E Q h=>by
 obtain⟨dd,n,sl,ho⟩:=aeL hl
 obtain⟨dd2,n2,sl2,ho2⟩:=aeL hb
 exact richCompare_meets_room (op:=.Lt) ⟨_,ho,rfl⟩ ⟨_,ho2,rfl⟩ PySem.F.slot_list_lt PySem.F.entry_list_lt (PySem.F.args_list_lt_2 _ _) (agn l b items items2 n n2 dd dd2 sl sl2 c)
  ⟨ho,ho2,he,show Value.bool c≠Value.notImplemented∧Q (.bool c) s from ⟨(fun x=>nomatch x),h⟩⟩ hu
theorem ais (l b:Addr) (items items2:Array Value) (n n2:Nat) (dd dd2:Option Addr) (sl sl2:Array (Option Value)) (c:Bool) :
  Meets (Builtin.«tuple.__lt__» ⟨[.ref l,.ref b],[]⟩)
   (fun A R s=>s.heap.get? l=some { cls:=.type "tuple",dict:=dd,data:=.seq items n,slots:=sl }∧s.heap.get? b=some { cls:=.type "tuple",dict:=dd2,data:=.seq items2 n2,slots:=sl2 } ∧
    agm A.in1 s items.toList items2.toList c∧R (.ok (.ret (.bool c))) s):=
 .of_wp fun prog w A R s h=>by
  obtain⟨hp,g,d,tk,os⟩:=s; obtain⟨hl,hb,he,h⟩:=h
  have f2:=AutoSeq1.sub_tuple_tuple
  wp_walk using wpAny_loadPart' hl,wpAny_loadPart' hb,wpAny_forIn_list _ (fun rest b s'=>b.1=none∧s'=⟨hp,g,d,tk,os⟩∧∃ i,i≤items.size∧i≤items2.size∧rest=(items.toList.drop i).zip (items2.toList.drop i) ∧
   agm A.in1 ⟨hp,g,d,tk,os⟩ (items.toList.drop i) (items2.toList.drop i) c) _
  case turn=>
   rintro ⟨y,x⟩ rest b s' ⟨hb',rfl,i,hi1,hi2,hz,hL⟩
   have h1:i<items.size:=by
    rcases Nat.lt_or_ge i items.size with q | q
    ·exact q
    ·simp only[List.drop_of_length_le q,List.zip_nil_left] at hz; cases hz
   have h2:i<items2.size:=by
    rcases Nat.lt_or_ge i items2.size with q | q
    ·exact q
    ·simp only[List.drop_of_length_le (l:=items2.toList) q,List.zip_nil_right] at hz; cases hz
   simp only[aid h1,aid h2] at hL
   simp only[aid h1,aid h2,List.zip_cons_cons] at hz
   injection hz with hyx hrest
   have hy:y=items[i]:=congrArg Prod.fst hyx
   have hx:x=items2[i]:=congrArg Prod.snd hyx
   subst hy hx
   cases hL with
   | eq e he=>
    refine wpAny_bind (e prog w _ _ ?_)
    wp_walk
    exact⟨rfl,rfl,i+1,h1,h2,hrest,he⟩
   | ne e he=>
    refine wpAny_bind (e prog w _ _ ?_)
    refine wpAny_bind (wpAny_rule (wpAny_bind (he prog w _ _ ?_)))
    wp_walk
    exact⟨_,rfl,h⟩
  case fin=>
   rintro ⟨b1,b2⟩ s' ⟨hb',rfl,i,hi1,hi2,hz,hL⟩
   simp only at hb'
   subst hb'
   have hc:=hL.fin hi1 hi2 ((List.zip_eq_nil_iff.mp hz.symm).imp List.drop_eq_nil_iff.mp List.drop_eq_nil_iff.mp)
   wp_walk
   refine⟨_,rfl,?_⟩
   show R (.ok (.ret (.bool (decide (items.size<items2.size))))) _
   exact (hc)▸(h)
  case h=>
   exact⟨rfl,rfl,0,Nat.zero_le _,Nat.zero_le _,by rfl,by simpa using he⟩
theorem agV.tuple {A:Around}{s:Shared}{l b:Addr}{items items2:Array Value}{c:Bool}(hl:s.heap.IsTuple l items) (hb:s.heap.IsTuple b items2) (hu:A.units<cLine) (he:agm A.in1 s items.toList items2.toList c):agV A s (.ref l) (.ref b) c:=fun prog w E Q h=>by
 obtain⟨dd,n,sl,ho⟩:=akO hl
 obtain⟨dd2,n2,sl2,ho2⟩:=akO hb
 exact richCompare_meets_room (op:=.Lt) ⟨_,ho,rfl⟩ ⟨_,ho2,rfl⟩ PySem.F.slot_tuple_lt PySem.F.entry_tuple_lt (PySem.F.args_tuple_lt_2 _ _) (ais l b items items2 n n2 dd dd2 sl sl2 c)
  ⟨ho,ho2,he,show Value.bool c≠Value.notImplemented∧Q (.bool c) s from ⟨(fun x=>nomatch x),h⟩⟩ hu
end
section
open PySem.SeqAt
noncomputable def ajg (f:PyData→PyData→Option Bool):List PyData→List PyData→Option Bool
 | [],[]=>some false
 | [],_::_=>some true
 | _::_,[]=>some false
 | x::xs,y::ys=>if PyData.eqv x y=true then ajg f xs ys else f x y
noncomputable def ltF:Nat→PyData→PyData→Option Bool
 | 0,_,_=>none
 | n+1,d,e=>match d,e with
  | .int a,.int b=>some (decide (a<b))
  | .str a,.str b=>some (decide (a.cps.toList<b.cps.toList))
  | .list xs,.list ys=>ajg (ltF n) xs ys
  | .tuple xs,.tuple ys=>ajg (ltF n) xs ys
  | _,_=>none
noncomputable def abL (xs:List PyData):Prop:=∀ x∈xs,shaped x=true
theorem adn:∀ {xs:List PyData},PyData.canLayAll0 xs=true→∀ x∈xs,x.canLay0=true
 | x::xs,h,y,m=>by
  have h':x.canLay0=true∧PyData.canLayAll0 xs=true:=by simpa [PyData.canLayAll0] using h
  rcases List.mem_cons.mp m with rfl | m
  ·exact h'.1
  ·exact adn h'.2 y m
theorem ac2 {xs:List PyData}(h:shaped (.list xs)=true):abL xs:=fun x m=>by
 have h1:=canLay_of_shaped h
 have h2:=depth_of_shaped h
 have h3:PyData.depthAll xs+1≤64:=by simpa only[PyData.depth] using h2
 have h4:=PyData.depth_le_depthAll xs x m
 unfold shaped
 rw[adn (show PyData.canLayAll0 xs=true from h1) x m]
 simp; lia
theorem adv {xs:List PyData}(h:shaped (.tuple xs)=true):abL xs:=fun x m=>by
 have h1:=canLay_of_shaped h
 have h2:=depth_of_shaped h
 have h3:PyData.depthAll xs+1≤64:=by simpa only[PyData.depth] using h2
 have h4:=PyData.depth_le_depthAll xs x m
 unfold shaped
 rw[adn (show PyData.canLayAll0 xs=true from h1) x m]
 simp; lia
theorem ajw {A:Around}{s:Shared}{D D':List Fz}{v v':Value}{d e:PyData}(hd:shaped d=true) (he:shaped e=true) (rd:RD D v d) (f:FIn D s.heap) (rd':RD D' v' e) (f':FIn D' s.heap) (hu:A.units+64<cLine):EqAt A s v v' (PyData.eqv d e):=by
 obtain⟨as,ra⟩:=rd.reads f
 obtain⟨bs,rb⟩:=rd'.reads f'
 exact eqAt_reads d e A s v v' as bs ra rb (canLay_of_shaped hd) (canLay_of_shaped he) (room_of_shaped hd hu)
theorem adS {A:Around}{s:Shared}{D D':List Fz}{g:PyData→PyData→Option Bool}(f:FIn D s.heap) (f':FIn D' s.heap) (hu:A.units+64<cLine)
  (hg:∀ d e v v' c,g d e=some c→shaped d=true→shaped e=true→RD D v d→RD D' v' e→agV A s v v' c)
  {ds:List PyData} {vs:List Value} (r:RDs D vs ds):∀ {es:List PyData} {vs':List Value} {c:Bool},ajg g ds es=some c→abL ds→abL es→RDs D' vs' es→agm A s vs vs' c:=by
 refine RDs.ind (P:=fun vs ds=>∀ {es:List PyData} {vs':List Value} {c:Bool},ajg g ds es=some c→abL ds→abL es→RDs D' vs' es→agm A s vs vs' c) (fun {es vs' c} h _ _ r'=>?_) (fun {v d vs ds} a _ ih {es vs' c} h hd he r'=>?_) r
 ·cases es with
  | nil=>obtain rfl:=r'.unnil; cases h; exact .nil_nil
  | cons e es=>obtain⟨_,_,rfl,_⟩:=r'.uncons; cases h; exact .nil_cons _ _
 ·cases es with
  | nil=>obtain rfl:=r'.unnil; cases h; exact .cons_nil _ _
  | cons e es=>
   obtain⟨v',us,rfl,a',b'⟩:=r'.uncons
   have q:=ajw (A:=A) (hd d (.head _)) (he e (.head _)) a f a' f' hu
   replace h:(if PyData.eqv d e=true then ajg g ds es else g d e)=some c:=h
   cases h1:PyData.eqv d e with
   | true=>
    rw[h1] at q h
    exact .eq q (ih h (fun x m=>hd x (.tail _ m)) (fun x m=>he x (.tail _ m)) b')
   | false=>
    rw[h1] at q h
    exact .ne q (hg d e _ _ c h (hd d (.head _)) (he e (.head _)) a a')
theorem ajV (n:Nat):∀ {A:Around}{s:Shared}{D D':List Fz}(f:FIn D s.heap) (f':FIn D' s.heap) (hu:A.units+64+n<cLine) (d e:PyData) (v v':Value) (c:Bool),ltF n d e=some c→shaped d=true→shaped e=true→RD D v d→RD D' v' e→agV A s v v' c:=by
 induction n with
 | zero=>exact fun J J J J J J J J h J J J J=>nomatch h
 | succ n ih=>
  intro A s D D' f f' hu d e v v' c h hd he a a'
  have hu1:A.in1.units+64+n<cLine:=Nat.lt_of_le_of_lt (Nat.le_of_eq (show A.units+1+64+n=A.units+64+(n+1) by exact q23)) hu
  have hu2:A.in1.units+64<cLine:=Nat.lt_of_le_of_lt (Nat.le_add_right _ n) hu1
  have hu3:A.units<cLine:=Nat.lt_of_le_of_lt (Nat.le_trans (Nat.le_add_right _ 64) (Nat.le_add_right _ (n+1))) hu
  cases a with
  | int i t=>cases a' with
   | int j u=>cases h; exact agV.int _ _ _ _
   | _=>cases h
  | str x t=>cases a' with
   | str y u=>cases h; exact agV.str _ _ _ _
   | _=>cases h
  | list hl r=>cases a' with
   | list hl' r'=>exact agV.list (show s.heap.PlainList _ _ from f _ hl).isList (show s.heap.PlainList _ _ from f' _ hl').isList hu3 (adS f f' hu2 (ih f f' hu1) r h (ac2 hd) (ac2 he) r')
   | _=>cases h
  | tuple hl r=>cases a' with
   | tuple hl' r'=>exact agV.tuple (f _ hl) (f' _ hl') hu3 (adS f f' hu2 (ih f f' hu1) r h (adv hd) (adv he) r')
   | _=>cases h
  | none=>cases h
inductive InQ (n:Nat) {α:Type}(P:α→Prop):KasT α→Prop
 | ret {a}:P a→InQ n P (.ret a)
 | ask {i j k}:i<n→j<n→(∀ b,InQ n P (k b))→InQ n P (.ask i j k)
theorem InQ.ite {n:Nat}{α:Type}{P:α→Prop}{c:Prop}[Decidable c] {a b:KasT α}(h:InQ n P a) (k:InQ n P b):InQ n P (if c then a else b):=by split<;>assumption
theorem InQ.bind {α β:Type}{n:Nat}{P:α→Prop}{Q:β→Prop}{f:α→KasT β}{t:KasT α}(h:InQ n P t) (hf:∀ a,P a→InQ n Q (f a)):InQ n Q (t.bind f):=by
 induction h with
 | ret p=>exact hf _ p
 | ask a b _ ih=>exact .ask a b ih
theorem am1 {α:Type}{n:Nat}{cmp:Nat→Nat→(Bool→Shared→Prop)→Shared→Prop}{lt:Nat→Nat→Bool}{I:Shared→Prop}{P:α→Prop}(hc:∀ i j C s,i<n→j<n→I s→(∀ s',I s'→C (lt i j) s')→cmp i j C s)
  (t:KasT α) (Q:α→Shared→Prop) (s:Shared) (h:InQ n P t) (hs:I s) (hq:∀ s',I s'→Q (ady lt t) s'):t.kasWp cmp Q s:=by
 induction h generalizing s with
 | ret=>exact hq s hs
 | ask a b _ ih=>exact hc _ _ _ s a b hs fun s' hs'=>ih _ s' hs' hq
noncomputable def ag8 (n:Nat) (p:Array Nat):Prop:=∀ k,p.getD k 0<n
theorem ag8.perm {n:Nat}{p q:Array Nat}(h:ag8 n p) (hp:q.Perm p) (hn:0<n):ag8 n q:=fun k=>by
 rw[Array.getD_eq_getD_getElem?]
 cases hk:q[k]? with
 | none=>exact hn
 | some x=>
  have hm:x∈q:=Array.mem_of_getElem? hk
  have hm2:x∈p:=hp.mem_iff.mp hm
  obtain⟨j,hj,e⟩:=Array.mem_iff_getElem.mp hm2
  have:=h j
  rw[Array.getD_eq_getD_getElem?,Array.getElem?_eq_getElem hj,e] at this
  exact this
section
variable {n:Nat}
theorem amU {p:Array Nat}(h:ag8 n p) (f:Nat):∀ m,InQ n (fun J=>True) (kas_asc p f m):=by
 induction f with
 | zero=>exact fun J=>.ret trivial
 | succ f ih=>exact fun m=>.ask (h _) (h _) fun b=>.ite (.ret trivial) (ih _)
theorem ag8.rev (hn:0<n) {p:Array Nat}{i j:Nat}(h:ag8 n p):ag8 n (kas_rev p i j):=h.perm (acV _ _ _) hn
theorem aod (hn:0<n) (f:Nat):∀ (p:Array Nat) (m q:Nat),ag8 n p→InQ n (fun x=>ag8 n x.1) (kas_desc f p m q):=by
 induction f with
 | zero=>exact fun J J J h=>.ret h
 | succ f ih=>exact fun p m q h=>.ask (h _) (h _) fun b=>.ite (.ite (ih _ _ _ (h.rev hn)) (ih _ _ _ h)) (.ask (h _) (h _) fun b=>.ite (.ret h) (ih _ _ _ h))
theorem ahi (hn:0<n) {p:Array Nat}{m lim:Nat}(h:ag8 n p):InQ n (fun x=>ag8 n x.2) (kas_tail3 m lim p):=(amU (h.rev hn) _ _).bind fun J J=>.ret (h.rev hn)
theorem aeb (hn:0<n) {p:Array Nat}{m lim:Nat}(h:ag8 n p):InQ n (fun x=>ag8 n x.2) (kas_descPart m lim p):=(aod hn _ p _ _ h).bind fun J hx=>.ite (ahi hn (hx.rev hn)) (ahi hn hx)
theorem alN (hn:0<n) {p:Array Nat}{lim:Nat}(h:ag8 n p):InQ n (fun x=>ag8 n x.2) (kas_count lim p):=
 (amU h _ _).bind fun J J=>.ite (.ret h) (.ite (.ask (h _) (h _) fun b=>.ite (.ret h) (aeb hn (h.rev hn))) (aeb hn h))
theorem amb {p:Array Nat}{k:Nat}(h:ag8 n p) (f:Nat):∀ l u,InQ n (fun J=>True) (kas_place p k f l u):=by
 induction f with
 | zero=>exact fun J J=>.ret trivial
 | succ f ih=>exact fun l u=>.ite (.ret trivial) (.ask (h _) (h _) fun b=>.ite (ih _ _) (ih _ _))
theorem aqF (hn:0<n) (f:Nat):∀ (p:Array Nat) (k:Nat),ag8 n p→InQ n (fun J=>True) (kas_bin f p k):=by
 induction f with
 | zero=>exact fun J J J=>.ret trivial
 | succ f ih=>exact fun p k h=>(amb h k 0 k).bind fun J J=>ih _ _ (h.perm (bubble_perm _ _ _) hn)
theorem anq (hn:0<n):InQ n (fun J=>True) (kas_sort n):=by
 refine (alN hn fun k=>?_).bind fun x hx=>.ite (aqF hn _ _ _ hx) (.ret trivial)
 rw[Array.getD_eq_getD_getElem?]
 cases hk:(List.range n).toArray[k]? with
 | none=>exact hn
 | some x=>exact List.mem_range.mp (List.mem_toArray.mp (Array.mem_of_getElem? hk))
end
noncomputable def ai4 (vs:List Value) (i:Nat):Value:=vs.getD i Value.none
structure aio (r:Nat→Int) (n:Nat) (p:List Nat):Prop where
 perm:p.Perm (List.range n)
 srt:∀ (i j:Nat),i≤j→j<n→r (p.getD i 0)≤r (p.getD j 0)
section
variable {prog:Program}{w:World}{A:Around}{E:Value→Shared→Prop}{s:Shared}
theorem afx {a:Addr}{vs:List Value}{n:Nat}{κ:SortKind}{r:Nat→Int}{P:PySem.Fin→Shared→Prop}(ho:s.heap.get? a=some (seqObj "list" vs.toArray n)) (h64:vs.length<64)
  (hk:2≤vs.length→∀ h',(∀ b o,b≠a→s.heap.get? b=some o→h'.get? b=some o)→∀ (Q:SortKind→Shared→Prop),Q κ { s with heap:=h' }→wpAny (model prog w) A (keyKind' vs.toArray) Q (fun J J=>False) { s with heap:=h' })
  (hc:∀ h',(∀ b o,b≠a→s.heap.get? b=some o→h'.get? b=some o)→∀ i j,i<vs.length→j<vs.length→∀ (Q:Bool→Shared→Prop),Q (rlt r i j) { s with heap:=h' }→wpAny (model prog w) A (keyLt' κ (vs.getD i Value.none) (vs.getD j Value.none)) Q (fun J J=>False) { s with heap:=h' })
  (h:∀ h' p c,(∀ b o,b≠a→s.heap.get? b=some o→h'.get? b=some o)→h'.get? a=some (seqObj "list" (List.toArray (p.map (ai4 vs))) c)→aio r vs.length p→P (.done (.ret .none)) { s with heap:=h' }) :
  wpAny (model prog w) A (Builtin.«list.sort» ⟨[.ref a],[]⟩) P E s:=by
 obtain⟨e1,ho1⟩:∃ e1,(s.heap.update a (Obj.mapSeq fun J=>(#[]:Array Value))).get? a=some (seqObj "list" #[] e1):=⟨_,get?_update_seq ho fun J=>#[]⟩
 have keep3:∀ b o,b≠a→s.heap.get? b=some o→(((s.heap.update a (Obj.mapSeq fun J=>(#[]:Array Value))).push (seqObj "tuple" vs.toArray 0)).push (seqObj "list" #[] 0)).get? b=some o:=fun b o hb e=>
  Heap.get?_push_of_some _ (Heap.get?_push_of_some _ (((Heap.SameBut.update s.heap a (Obj.mapSeq fun J=>(#[]:Array Value))).2 b hb).trans e))
 have ho3:(((s.heap.update a (Obj.mapSeq fun J=>(#[]:Array Value))).push (seqObj "tuple" vs.toArray 0)).push (seqObj "list" #[] 0)).get? a=some (seqObj "list" #[] e1):=Heap.get?_push_of_some _ (Heap.get?_push_of_some _ ho1)
 rw[list_sort_plain]
 refine wpAny_bind (listItems_at ho rfl ?_)
 refine wpAny_bind (listUpdate_at ho rfl ?_ (by rw[List.size_toArray,sizeLine_eq]; exact q72 ‹_›) (Nat.zero_le _))
 refine wpAny_bind (seqEpoch_at ho1 rfl ?_)
 refine wpAny_bind (wpAny_newTuple ?_ (by show vs.length≤_; rw[sizeLine_eq]; exact q72 ‹_›))
 refine wpAny_bind (wpAny_newList ?_ (Nat.zero_le _))
 refine wpAny_holding ?_
 show wpAny (model prog w) A _ P E { s with heap:=((s.heap.update a (Obj.mapSeq fun J=>(#[]:Array Value))).push (seqObj "tuple" vs.toArray 0)).push (seqObj "list" #[] 0) }
 generalize (((s.heap.update a (Obj.mapSeq fun J=>(#[]:Array Value))).push (seqObj "tuple" vs.toArray 0)).push (seqObj "list" #[] 0))=H3 at keep3 ho3
 dsimp only
 have fin:∀ (st:SortSt) (p:List Nat),(arrOf st).map (·.2)=List.toArray (p.map (ai4 vs))→p.length=vs.length→aio r vs.length p→
   wpAny (model prog w) A (Builtin.List.listUpdate (.ref a) fun J=>(arrOf st).map (·.2)) (fun J s'=>P (.done (.ret .none)) s') E { s with heap:=H3 }:=fun st p e hl ho=>by
  have hsz:(List.toArray (p.map (ai4 vs))).size=vs.length:=by simp[hl]
  rw[e]
  obtain⟨c2,hc2⟩:∃ c2,(H3.update a (Obj.mapSeq fun J=>List.toArray (p.map (ai4 vs)))).get? a=some (seqObj "list" (List.toArray (p.map (ai4 vs))) c2):=⟨_,get?_update_seq ho3 fun J=>List.toArray (p.map (ai4 vs))⟩
  refine listUpdate_at ho3 rfl ?_ (Nat.zero_le _) (Nat.le_trans (Nat.le_of_eq hsz) (by rw[sizeLine_eq]; lia))
  exact h _ p c2 (fun b o hb e=>((Heap.SameBut.update H3 a _).2 b hb).trans (keep3 b o hb e)) hc2 ho
 by_cases h2:vs.toArray.size<2
 ·have h2':vs.length<2:=by simpa using h2
  rw[if_pos h2,if_pos h2]
  refine wpAny_bind (wpAny_pure ?_)
  refine wpAny_bind (wpAny_pure ?_)
  dsimp only
  refine wpAny_bind (seqEpoch_at ho3 rfl ?_)
  have hone:(arrOf (SortSt.mk' general' (vs.toArray.zip vs.toArray) #[] 7 none)).map (·.2)=List.toArray ((List.range vs.length).map (ai4 vs)):=by
   show ((vs.toArray.zip vs.toArray).map (·.2))=_
   match vs,h2' with
   | [],_=>simp
   | [v],_=>simp[ai4]
   | _::_::_,h=>simp at h; lia
  refine wpAny_bind (wpAny_mono (fin _ (List.range vs.length) hone (by simp) ⟨List.Perm.refl _,fun i j hij hj=>by
   have:i=j:=by lia
   rw[this]; exact Int.le_refl _⟩) (fun J s' hp=>?_) fun J J e=>e)
  simp only[bne_self_eq_false,Bool.false_eq_true,if_false]
  exact wpAny_pure hp
 ·have h2':2≤vs.length:=by simp at h2; assumption
  rw[if_neg h2,if_neg h2]
  refine wpAny_bind (wpAny_mono (hk h2' H3 keep3 (fun κ' s'=>κ'=κ∧s'={ s with heap:=H3 }) ⟨rfl,rfl⟩) (fun κ' s' x=>?_) fun J J x=>x.elim)
  obtain⟨rfl,rfl⟩:=x
  have hn0:0<vs.length:=by exact Nat.le_of_lt ‹_›
  have ask:(kas_sort vs.length).kasWp (kas_ask prog w A κ' vs) (fun p s'=>p=ady (rlt r) (kas_sort vs.length)∧s'={ s with heap:=H3 }) { s with heap:=H3 }:=
   am1 (n:=vs.length) (lt:=rlt r) (I:=fun s'=>s'={ s with heap:=H3 }) (fun i j C s' hi hj hs hC=>by
    subst hs
    exact hc H3 keep3 i j hi hj _ (hC _ rfl)) _ _ _ (anq hn0) rfl fun s' hs=>⟨rfl,hs⟩
  refine wpAny_bind (wpAny_mono (kat_run (E:=E) (Q:=fun st' s'=>∃ p:Array Nat,arrOf st'=p.map (kas_item (vs.toArray.zip vs.toArray))∧failedOf st'=none∧p=ady (rlt r) (kas_sort vs.length)∧s'={ s with heap:=H3 })
   rfl h2' h64 (fun p' st' s' a1 a2 a3 a4=>⟨p',a2,a3,a4.1,a4.2⟩) ask) ?_ fun J J e=>e)
  rintro ⟨⟨⟩,st'⟩ s' ⟨p,har,hf,hp,rfl⟩
  obtain⟨o1,o2⟩:=amX (r:=r) vs.length hn0
  rw[← hp] at o1 o2
  refine wpAny_bind (seqEpoch_at ho3 rfl ?_)
  have hpl:p.toList.Perm (List.range vs.length):=by simpa using o1.toList
  refine wpAny_bind (wpAny_mono (fin st' p.toList (kat_snds rfl har) (by rw[hpl.length_eq]; simp) ⟨hpl,fun i j hij hj=>by
   have:=o2 i j hij hj
   unfold vl at this
   simp only[Array.getD_eq_getD_getElem?,Array.getD_eq_getD_getElem?] at this
   simpa using this⟩) (fun J s' hp=>?_) fun J J e=>e)
  rw[hf]
  simp only[bne_self_eq_false,Bool.false_eq_true,if_false]
  exact wpAny_pure hp
end
section
variable {w:World}{A:Around}{s:Shared}{L:List Res}{R R₂:Res}
theorem ahk {l:Addr}{vs:List Value}{κ:SortKind}{r:Nat→Int}{Q:Value→Shared→Prop}(H:aa0 s (R::R₂::L)) (hl:s.heap.IsList l vs.toArray) (h64:vs.length<64)
  (hk:2≤vs.length→∀ h':Heap,(∀ b o,s.heap.get? b=some o→h'.get? b=some o)→∀ (A:Around) (Q':SortKind→Shared→Prop),Q' κ { s with heap:=h' }→wpAny (model pw w) A (keyKind' vs.toArray) Q' (fun J J=>False) { s with heap:=h' })
  (hc:∀ h':Heap,(∀ b o,s.heap.get? b=some o→h'.get? b=some o)→∀ i j,i<vs.length→j<vs.length→∀ (Q':Bool→Shared→Prop),Q' (rlt r i j) { s with heap:=h' }→wpAny (model pw w) A.in1.in1 (keyLt' κ (vs.getD i Value.none) (vs.getD j Value.none)) Q' (fun J J=>False) { s with heap:=h' })
  (h:∀ s' D p,aa0 s' (R::R₂::aa2 D (List.toArray (p.map (ai4 vs)))::L)→aio r vs.length p→Q (.ref D) s'):WP w A (call (.builtin "sorted") [.ref l]) Q s:=by
 refine .of (Calls.call_function_entry kind_sorted plain_sorted entry_sorted (args_sorted1 _) ?_)
 refine wpAny_bind (wpAny_pure ?_)
 refine wpAny_bind (collect_list hl ?_ (by rw[sizeLine_eq]; exact q72 ‹_›))
 refine wpAny_bind (wpAny_newList ?_ (by rw[sizeLine_eq]; exact q72 ‹_›))
 have hsz:((s.heap.push (seqObj "list" #[] 0)).update s.heap.objs.size (Obj.mapSeq (·++vs.toArray))).objs.size=s.heap.objs.size+1:=by
  rw[Heap.size_update,size_push']
 have hoL:(((s.heap.push (seqObj "list" #[] 0)).update s.heap.objs.size (Obj.mapSeq (·++vs.toArray))).push (seqObj "list" vs.toArray 0)).get? (s.heap.objs.size+1)=some (seqObj "list" vs.toArray 0):=by
  rw[← hsz]; exact Heap.get?_push_size _ rfl
 have keep:∀ b o,s.heap.get? b=some o→(((s.heap.push (seqObj "list" #[] 0)).update s.heap.objs.size (Obj.mapSeq (·++vs.toArray))).push (seqObj "list" vs.toArray 0)).get? b=some o:=fun b o q=>by
  have hlt:b<s.heap.objs.size:=Heap.lt_size q
  rw[Heap.get?_push_ne _ _ _ (by rw[hsz]; exact Nat.ne_of_lt (Nat.lt_succ_of_lt hlt)),Heap.get?_update_ne _ _ _ _ (Nat.ne_of_lt hlt),Heap.get?_push_ne _ _ _ (Nat.ne_of_lt hlt)]
  exact q
 show wpAny _ _ _ _ _ { s with heap:=((s.heap.push (seqObj "list" #[] 0)).update s.heap.objs.size (Obj.mapSeq (·++vs.toArray))).push (seqObj "list" vs.toArray 0) }
 rw[hsz]
 generalize ((s.heap.push (seqObj "list" #[] 0)).update s.heap.objs.size (Obj.mapSeq (·++vs.toArray))).push (seqObj "list" vs.toArray 0)=H2 at hoL keep
 have keep2:∀ h':Heap,(∀ b o,b≠s.heap.objs.size+1→H2.get? b=some o→h'.get? b=some o)→∀ b o,s.heap.get? b=some o→h'.get? b=some o:=fun h' k b o q=>
  k b o (Nat.ne_of_lt (Nat.lt_succ_of_lt (Heap.lt_size q))) (keep b o q)
 refine wpAny_bind (wpAny_holding (wpAny_call_entry slot_list_sort ⟨_,hoL,rfl⟩ entry_list_sort ?body (args_list_sort _)))
 case body=>
  refine afx (s:={ s with heap:=H2 }) (κ:=κ) (r:=r) hoL h64 (fun h2 h' k Q' hq=>hk h2 h' (keep2 h' k) _ Q' hq) (fun h' k i j hi hj Q' hq=>hc h' (keep2 h' k) i j hi hj Q' hq) fun h' p c k hL ho=>?_
  refine⟨_,rfl,wpAny_pure ⟨_,rfl,?_⟩⟩
  have fr:s.heap.get? (s.heap.objs.size+1)=none:=by
   cases e:s.heap.get? (s.heap.objs.size+1) with
   | none=>rfl
   | some o=>exact absurd (Heap.lt_size e) (Nat.not_lt.mpr (Nat.le_succ _))
  exact h _ _ p (H.made (R':=aa2 (s.heap.objs.size+1:Nat) (List.toArray (p.map (ai4 vs)))) (.of (fun b o e=>keep2 h' k b o e) rfl rfl ⟨c,hL⟩ (fun b e=>by
   have e':b=s.heap.objs.size+1:=e
   rw[e']; exact fr) fun J z=>z)) ho
end
theorem RDs.pick {D:List Fz}{vs:List Value}{ds:List PyData}(h:RDs D vs ds):∀ (p:List Nat),(∀ i∈p,i<vs.length)→RDs D (p.map (ai4 vs)) (p.map fun i=>ds.getD i .none):=by
 intro xX
 induction xX with
 | nil=>exact @fun J=>.nil
 | cons i p ih=>
  refine @fun hp=>?_
  have hi:i<ds.length:=by rw[← h.length]; exact hp i (.head _)
  obtain⟨x,hx,hr⟩:=h.get (i:=i) (y:=ds[i]) (List.getElem?_eq_getElem hi)
  refine .cons ?_ (ih fun j m=>hp j (.tail _ m))
  show RD D (vs.getD i Value.none) (ds.getD i PyData.none)
  simp only[List.getD_eq_getElem?_getD,List.getD_eq_getElem?_getD,hx,List.getElem?_eq_getElem hi]
  exact hr
theorem anu {D:List Fz}{h h':Heap}(k:∀ b o,h.get? b=some o→h'.get? b=some o) (f:FIn D h):∀ {ps:List (Int × Int)}{vs:List Value},RDs D vs (ps.map pD)→∃ fs,KatTups h' vs fs∧fs.length=vs.length∧∀ v∈fs,∃ i t,v=Value.int i t:=by
 intro ps
 induction ps with
 | nil=>intro vs h; cases h.unnil; exact⟨[],.nil,rfl,fun J m=>nomatch m⟩
 | cons p ps ih=>
  intro vs h
  obtain⟨v,u,rfl,a,b⟩:=RDs.uncons (ds:=ps.map pD) h
  obtain⟨fs,h1,h2,h3⟩:=ih b
  obtain⟨x,tk,tc,rfl,hm⟩:=af4 a
  obtain⟨o,ho,hc,n,hd⟩:h'.IsTuple x _:=(f _ hm).keeps (f:=⟨true,x,_⟩) k
  refine⟨.int p.1 tk::fs,.cons ho hc hd rfl h1,congrArg (· + 1) h2,fun v mv=>?_⟩
  rcases List.mem_cons.mp mv with rfl | mv
  ·exact⟨_,_,rfl⟩
  ·exact h3 v mv
section
variable {w:World}{A:Around}{s:Shared}{L:List Res}{R R₂:Res}
theorem afE {l:Addr}{vs:List Value}{D:List Fz}{ps:List (Int × Int)}{Q:Value→Shared→Prop}(H:aa0 s (R::R₂::fzR D::L)) (hl:s.heap.IsList l vs.toArray) (hd:RDs D vs (ps.map pD)) (h64:ps.length<64) (nd:(ps.map Prod.fst).Nodup)
  (h:∀ (s':Shared) (D':Addr) (D2:List Fz) (ps':List (Int × Int)) (vs':Array Value),aa0 s' (R::R₂::fzR D2::L)→(∀ f∈D,f∈D2)→⟨false,D',vs'⟩∈D2→RDs D2 vs'.toList (ps'.map pD)→ps'.Perm ps→ps'.Pairwise (fun a b=>a.1<b.1)→Q (.ref D') s'):WP w A (call (.builtin "sorted") [.ref l]) Q s:=by
 have hlen:vs.length=ps.length:=by have:=hd.length; simpa using this
 have F0:=aas (H.at [_,_])
 have at':∀ i,i<vs.length→∃ a tk tc,vs.getD i Value.none=.ref a∧⟨true,a,#[.int (ps.getD i (0,0)).1 tk,.int (ps.getD i (0,0)).2 tc]⟩∈D:=fun i hi=>by
  have hi':i<ps.length:=by exact q4 ‹_› ‹_›
  obtain⟨x,hx,hr⟩:=hd.get (i:=i) (y:=pD ps[i]) (by rw[List.getElem?_map,List.getElem?_eq_getElem hi']; rfl)
  obtain⟨a,tk,tc,rfl,hm⟩:=af4 hr
  refine⟨a,tk,tc,by rw[List.getD_eq_getElem?_getD,hx]; rfl,?_⟩
  rw[List.getD_eq_getElem?_getD,List.getElem?_eq_getElem hi']
  exact hm
 exists ahk (κ:=tuples' true) (r:=fun i=>(ps.getD i (0,0)).1) H hl (by exact q57 ‹_› ‹_›) (fun h2 h' k A' Q' hq=>?_) (fun h' k i j hi hj Q' hq=>?_) fun s' D' p H' ho=>?_
 ·obtain⟨fs,hf1,hf2,hf3⟩:=anu k F0 hd
  exact kat_kind (s:={ s with heap:=h' }) (T:=.type "int") hf1 (by lia) (fun v hv=>by
   obtain⟨i,t,rfl⟩:=hf3 v hv
   exact Looks.of_pure rfl) rfl hq
 ·obtain⟨a,tk,tc,e1,m1⟩:=at' i hi
  obtain⟨b,tk2,tc2,e2,m2⟩:=at' j hj
  simp only[e1,e2]
  have i1:h'.IsTuple a _:=(F0 _ m1).keeps (f:=⟨true,a,_⟩) k
  have i2:h'.IsTuple b _:=(F0 _ m2).keeps (f:=⟨true,b,_⟩) k
  obtain⟨o1,g1,_,n1,d1⟩:=i1
  obtain⟨o2,g2,_,n2,d2⟩:=i2
  refine kat_lt (s:={ s with heap:=h' }) g1 d1 g2 d2 ?_
  clear m1 m2
  generalize hp:ps.getD i (0,0)=p
  generalize hq':ps.getD j (0,0)=q
  show KatLex pw w A.in1.in1 true (decide (2<2)) Q' [(.int p.1 tk,.int q.1 tk2),(.int p.2 tc,.int q.2 tc2)] 0 _
  have hr:rlt (fun i=>(ps.getD i (0,0)).1) i j=decide (p.1<q.1):=by
   show decide ((ps.getD i (0,0)).1<(ps.getD j (0,0)).1)=_
   rw[hp,hq']
  rw[hr] at hq
  refine kat_cons (EqAt.int_int (A:=A.in1.in1) (s:={ s with heap:=h' }) p.1 tk q.1 tk2 pw w _ _ ?_)
  by_cases hk:p.1=q.1
  ·have hij:i=j:=by
    have hi':i<ps.length:=by exact q4 ‹_› ‹_›
    have hj':j<ps.length:=by exact q4 ‹_› ‹_›
    have x1:(ps.map Prod.fst)[i]'(by simpa using hi')=(ps.map Prod.fst)[j]'(by simpa using hj'):=by
     simp only[List.getElem_map,List.getElem_map]
     rw[List.getD_eq_getElem?_getD,List.getElem?_eq_getElem hi'] at hp
     rw[List.getD_eq_getElem?_getD,List.getElem?_eq_getElem hj'] at hq'
     have hp2:ps[i] = p:=hp
     have hq2:ps[j] = q:=hq'
     simp only[hp2,hq2,hk]
    exact (List.getElem_inj nd).mp x1
   have hpq:p=q:=by rw[← hp,← hq',hij]
   subst hpq
   rw[show (p.1==p.1)=true by simp]
   refine kat_yes (kat_cons (EqAt.int_int (A:=A.in1.in1) (s:={ s with heap:=h' }) p.2 tc p.2 tc2 pw w _ _ ?_))
   rw[show (p.2==p.2)=true by simp]
   refine kat_yes (kat_nil ?_)
   rw[show decide (p.1<p.1)=false by simp] at hq
   exact hq
  ·exact (show (p.1==q.1)=false by simpa using hk)▸(kat_no (oneLt_int hq))
 ·have hrd:=hd.pick p (fun i m=>by rw[hlen]; have:=ho.perm.mem_iff.mp m; rw[hlen] at this; exact List.mem_range.mp this)
  have hps:(p.map fun i=>(ps.map pD).getD i PyData.none)=(p.map fun i=>ps.getD i (0,0)).map pD:=by
   simp only[List.map_map]
   refine List.map_congr_left fun i m=>?_
   have hi:i<ps.length:=by have:=ho.perm.mem_iff.mp m; rw[hlen] at this; exact List.mem_range.mp this
   show (ps.map pD).getD i PyData.none=pD (ps.getD i (0,0))
   simp only[List.getD_eq_getElem?_getD,List.getD_eq_getElem?_getD,List.getElem?_map,List.getElem?_eq_getElem hi]
   rfl
  rw[hps] at hrd
  have hall:(List.range ps.length).map (fun i=>ps.getD i (0,0))=ps:=by
   apply List.ext_getElem
   ·simp
   ·intro i h1 h2
    simp[List.getD_eq_getElem?_getD,h2]
  have hperm:(p.map fun i=>ps.getD i (0,0)).Perm ps:=by
   have:=ho.perm.map fun i=>ps.getD i (0,0)
   rw[hlen,hall] at this
   exact this
  have hpl:p.length=ps.length:=by rw[ho.perm.length_eq,hlen]; simp
  refine h s' D' _ (p.map fun i=>ps.getD i (0,0)) _ (aa0.fzAdd [_,_] ⟨false,D',List.toArray (p.map (ai4 vs))⟩ (H'.pick [0,1,3,2] 4)) (fun f m=>.tail _ m) (.head _) (by simpa using hrd.mono fun f m=>.tail _ m) hperm ?_
  have nd2:((p.map fun i=>ps.getD i (0,0)).map Prod.fst).Nodup:=(hperm.map Prod.fst).nodup_iff.mpr nd
  rw[List.pairwise_iff_getElem]
  intro i j hi hj hij
  simp only[List.length_map] at hi hj
  have hle:=ho.srt i j (by exact q64 ‹_›) (by lia)
  have ei:p.getD i 0=p[i]:=by simp only[List.getD_eq_getElem?_getD,List.getElem?_eq_getElem hi]; rfl
  have ej:p.getD j 0=p[j]:=by rw[List.getD_eq_getElem?_getD,List.getElem?_eq_getElem hj]; rfl
  rw[ei,ej] at hle
  simp only[List.getElem_map]
  have hne:(ps.getD p[i] (0,0)).1≠(ps.getD p[j] (0,0)).1:=fun e=>by
   have x1:((p.map fun i=>ps.getD i (0,0)).map Prod.fst)[i]'(by simpa using hi)=((p.map fun i=>ps.getD i (0,0)).map Prod.fst)[j]'(by simpa using hj):=by
    simp only[List.getElem_map]
    exact e
   have:=(List.getElem_inj nd2).mp x1
   lia
  lia
end
noncomputable def aic:PyData→Bool
 | .list _=>true
 | _=>false
theorem akN {d:PyData}(h:aic d=true):∃ xs,d=.list xs:=by
 cases d<;>first | exact⟨_,rfl⟩ | cases h
section
variable {w:World}{A:Around}{s:Shared}{L:List Res}{R R₂:Res}
theorem ail {A:Around}{s:Shared}{x y:Addr}{xs ys:Array Value}{c:Bool}{E:Value→Shared→Prop}{Q:Bool→Shared→Prop}(hx:s.heap.IsList x xs) (hy:s.heap.IsList y ys) (hu:A.units<cLine) (he:agm A.in1 s xs.toList ys.toList c) (h:Q c s):wpAny (model pw w) A (oneLt' true (.ref x) (.ref y)) Q E s:=by
 obtain⟨dd,n,sl,ho⟩:=aeL hx
 obtain⟨dd2,n2,sl2,ho2⟩:=aeL hy
 simp only[oneLt'_eq]
 refine wpAny_bind (wpAny_cRoomFor hu ?_)
 refine wpAny_bind (wpAny_callSpecialIfBound?_slot (T := "list") ⟨_,ho,rfl⟩ PySem.F.slot_list_lt (call_meets PySem.F.slot_list_lt ⟨_,ho,rfl⟩ PySem.F.entry_list_lt (PySem.F.args_list_lt_2 _ _) (agn x y xs ys n n2 dd dd2 sl sl2 c) ⟨ho,ho2,he,?_⟩))
 exact wpAny_truthy_bool h
theorem alK {l:Addr}{vs:List Value}{D:List Fz}{ds:List PyData}{r:Nat→Int}{Q:Value→Shared→Prop}(rm:aah A 1 3) (H:aa0 s (R::R₂::fzR D::L)) (hl:s.heap.IsList l vs.toArray) (hd:RDs D vs ds) (h64:ds.length<64) (hls:∀ d∈ds,aic d=true) (hsh:∀ d∈ds,shaped d=true)
  (hr:∀ i j,i<ds.length→j<ds.length→ltF 9 (ds.getD i .none) (ds.getD j .none)=some (decide (r i<r j)))
  (h:∀ (s':Shared) (D':Addr) (D2:List Fz) (p:List Nat) (vs':Array Value),aa0 s' (R::R₂::fzR D2::L)→(∀ f∈D,f∈D2)→⟨false,D',vs'⟩∈D2→RDs D2 vs'.toList (p.map fun i=>ds.getD i .none)→aio r ds.length p→Q (.ref D') s'):WP w A (call (.builtin "sorted") [.ref l]) Q s:=by
 have hlen:vs.length=ds.length:=hd.length
 have F0:=aas (H.at [_,_])
 have at':∀ i,i<vs.length→∃ xs,ds.getD i .none=.list xs∧shaped (.list xs)=true∧RD D (vs.getD i Value.none) (.list xs):=fun i hi=>by
  have hi':i<ds.length:=by exact q4 ‹_› ‹_›
  obtain⟨x,hx,hrr⟩:=hd.get (i:=i) (y:=ds[i]) (List.getElem?_eq_getElem hi')
  obtain⟨xs,e⟩:=akN (hls _ (List.getElem_mem hi'))
  refine⟨xs,by rw[List.getD_eq_getElem?_getD,List.getElem?_eq_getElem hi']; exact e,by rw[← e]; exact hsh _ (List.getElem_mem hi'),?_⟩
  simp only[List.getD_eq_getElem?_getD,hx,← e]
  exact hrr
 have hu:A.in1.in1.units+200<cLine:=by
  have:=rm.units
  have e:cLine=9900:=rfl
  show A.units+1+1+200<cLine
  lia
 exists ahk (κ:=oneType') (r:=r) H hl (by exact q57 ‹_› ‹_›) (fun h2 h' k A' Q' hq=>?_) (fun h' k i j hi hj Q' hq=>?_) fun s' D' p H' ho=>?_
 ·refine kas_kind (s:={ s with heap:=h' }) (T:=.type "list") h2 (fun v hv=>?_) (by decide) (by decide) hq
  obtain⟨i,hi,e⟩:=List.mem_iff_getElem.mp hv
  obtain⟨xs,_,_,rd⟩:=at' i hi
  obtain⟨a,items,e2,hm,_⟩:=rd.lst
  have ev:vs.getD i Value.none=v:=by simp only[List.getD_eq_getElem?_getD,List.getElem?_eq_getElem hi,e]; rfl
  rw[ev] at e2
  subst e2
  obtain⟨n,ho⟩:h'.PlainList a items:=(F0 _ hm).keeps (f:=⟨false,a,items⟩) k
  exact (Looks.ld ho).andThen .now
 ·obtain⟨xs,e1,s1,r1⟩:=at' i hi
  obtain⟨ys,e2,s2,r2⟩:=at' j hj
  have hlt:=hr i j (by exact q4 ‹_› ‹_›) (by exact q4 ‹_› ‹_›)
  simp only[e1,e2] at hlt
  obtain⟨a,items,q1,m1,d1⟩:=r1.lst
  obtain⟨b,items2,q2,m2,d2⟩:=r2.lst
  simp only[q1,q2]
  have fk:FIn D h':=F0.keeps k
  have i1:h'.PlainList a items:=fk _ m1
  have i2:h'.PlainList b items2:=fk _ m2
  have hu1:A.in1.in1.in1.units+64+8<cLine:=by show A.in1.in1.units+1+64+8<cLine; lia
  exact ail (s:={ s with heap:=h' }) i1.isList i2.isList (by lia) (adS (s:={ s with heap:=h' }) fk fk (by lia) (fun d e v v' c=>ajV 8 (s:={ s with heap:=h' }) fk fk hu1 d e v v' c) d1 hlt (ac2 s1) (ac2 s2) d2) hq
 ·have hrd:=hd.pick p (fun i m=>by have:=ho.perm.mem_iff.mp m; exact List.mem_range.mp this)
  rw[hlen] at ho
  exact h s' D' _ p _ (aa0.fzAdd [_,_] ⟨false,D',List.toArray (p.map (ai4 vs))⟩ (H'.pick [0,1,3,2] 4)) (fun f m=>.tail _ m) (.head _) (by simpa using hrd.mono fun f m=>.tail _ m) ho
end
end
section
open Builtin Builtin.ObjectAttr PySem.SeqAt
section
variable {w:World}{A:Around}{s s0:Shared}{env:Env}{L:List Res}{ns gs:List Str}{R R₁ R₂:Res}
theorem aeB {n:Int}{t:Tok}{Q:Value→Shared→Prop}(H:aa0 s (R::R₂::L)) (h:∀ s' r t u v,aa0 s' (R::R₂::akB r 0 n 1 t u v::L)→Q (.ref r) s'):WP w A (call (.type "range") [.int n t]) Q s:=
 .of (call_range_1 (h _ _ _ _ _ (H.made (R':=akB _ 0 n 1 _ _ _) (.of (fun J J e=>Heap.get?_push_of_some _ e) rfl rfl (IsRange.new s.heap 0 n 1 s.toks t (s.toks+1)) aa9 fun J z=>z))))
theorem aeF {r:Addr}{n:Nat}{t u v:Tok}{Q:Value→Shared→Prop}(M:List Res) (H:aa0 s (R::R₂::(M++akB r 0 n 1 t u v::L))) (hn:n<1000)
  (h:∀ s' it,aa0 s' (R::R₂::ahS it 0 n 1::(M++akB r 0 n 1 t u v::L))→Q (.ref it) s'):WP w A (pyIter (.ref r)) Q s:=by
 refine .of (wpAny_pyIter_range (H.at (R::R₂::M)) (small_one (by simp +arith) (by simp +arith) (by simp +arith) (by omega)) ?_)
 rw[rangeSize_one]
 have e:(if (0:Int)<n then (n:Int) - 0 else 0)=n:=by split<;>omega
 rw[e]
 exact h _ _ (H.made (R':=ahS _ 0 n 1) (.of (fun J J e=>Heap.get?_push_of_some _ e) rfl rfl (Heap.get?_push_size _ rfl) aa9 fun J z=>z))
theorem agx {it:Addr}{x left:Int}{Q:Option Value→Shared→Prop}(M:List Res) (H:aa0 s (M++ahS it x left 1::L)) (hl:0<left) (h:∀ s' t,aa0 s' (M++ahS it (x+1) (left - 1) 1::L)→Q (some (.int x t)) s'):WP w A (pyNext (.ref it)) Q s:=
 .of (wpAny_pyNext_range_item (H.at M) hl fun h' hit hs=>h _ _ (H.updAt M (aaB hs (s.toks+1) rfl rfl rfl rfl hit)))
theorem ajk {it:Addr}{x left:Int}{Q:Option Value→Shared→Prop}(M:List Res) (hh:A.handled=none) (H:aa0 s (M++ahS it x left 1::L)) (hl:left≤0) (h:∀ s',aa0 s' (M++emp::L)→Q none s'):WP w A (pyNext (.ref it)) Q s:=
 .of (wpAny_pyNext_range_end hh (H.at M) hl fun h' he=>h _ (H.updAt M (afd he rfl rfl)))
theorem am0 {value:Expr}{sl:Option Expr}{p2:Pos}{t b:Addr}{items:Array Value}{Q:Value→Shared→Prop}(ht:s.heap.IsList t items) (hg:∀ r,letTemporaryGo value (.ref t) r=pure ())
  (h:WP w A (getItem (.ref t) (.ref b)) Q s):WP w A (subscriptTail value (.Slice sl none none p2) (.ref t) (.ref b)) Q s:=by
 unfold subscriptTail
 refine .bind (.bind (.of (wpAny_specialOf ht.typeIs slot_list_getitem.lookup ?_)))
 refine .pure ?_
 exact .bind (.operate (h.mono fun r s₂ x=>.bind (.eq (hg r) (.pure x))))
theorem apH {value:Expr}{a k:Nat}{p1 p2 pos:Pos}{Q:Value→Shared→Prop}
  (h:WP w A (eval value env) (fun o s₁=>∃ t items R R₂ L,o=.ref t∧aa0 s₁ (R::R₂::L)∧(∀ s:Shared,aa0 s (R::R₂::L)→s.heap.IsList t items)∧a≤items.size∧items.size≤1000∧(∀ r,letTemporaryGo value (.ref t) r=pure ()) ∧
   ∀ s' b,aa0 s' (R::R₂::aa2 b (items.toList.drop a).toArray::L)→Q (.ref b) s') s) :
  WP w A (eval (.Subscript value (.Slice (some (.Constant (.int a) k p1)) none none p2) pos) env) Q s:=by
 exists aaw (h.mono fun o s₁ x=>?_)
 obtain⟨t,items,R,R₂,L,rfl,H,hl,ha,hsz,hg,hQ⟩:=x
 refine .bind ?_
 show WP w A (eval (.Constant (.int a) k p1) env) _ _
 exists aaW H fun s₂ u H2'=>.bind (.hold (.pure (.bind (.hold (.pure ?_)))))
 refine .of (wpAny_newObj_type ?_ (by size_fits))
 have H3':=H2'.keep (aci { cls:=.type "slice",data:=.fields #[.int a u,.none,.none] } s₂.toks)
 have e:slicePick items (some (a:Int)) none none=(items.toList.drop a).toArray:=by
  have e1:sliceBounds (some (a:Int)) none none items.size=((a:Int),(items.size:Int),1):=by
   simp only[sliceBounds,Option.getD_none,show (1:Int)>0 by decide,if_true,if_neg (show ¬ ((a:Int)<0) by exact q79)]
   congr 1
   lia
  rw[kmk_pick_nat _ e1,List.take_of_length_le]
  simp only[List.length_drop,Array.length_toList]; simp +arith
 refine am0 (hl _ H3') hg (.of (wpAny_getItem_list_slice (hl _ H3') (Heap.IsSliceOf.new ..) (.int a u) .none .none (by decide) ?_ (Nat.le_trans hsz aan)))
 rw[e]
 exact hQ _ _ (H3'.made (R':=aa2 _ _) (.of (fun J J e=>Heap.get?_push_of_some _ e) rfl rfl ⟨_,Heap.get?_push_size _ rfl⟩ aa9 fun J z=>z))
theorem aqR {D D':List Fz}{v v':Value}{d e:PyData}{Q:Value→Shared→Prop}(r:aah A 1 3) (f:FIn D s.heap) (f':FIn D' s.heap) (rd:RD D v d) (rd':RD D' v' e) (h1:shaped d=true) (h2:shaped e=true) (h:Q (.bool (PyData.eqv d e)) s):WP w A (compareOp .Eq v v') Q s:=by
 obtain⟨as,ra⟩:=rd.reads f
 obtain⟨bs,rb⟩:=rd'.reads f'
 have hu:A.units+64<cLine:=by have:=r.units; have e:cLine=9900:=rfl; lia
 exact .of (compareEq_shaped ra rb h1 h2 hu h)
theorem atr {D D':List Fz}{v v':Value}{d e:PyData}{Q:Value→Shared→Prop}(r:aah A 1 3) (f:FIn D s.heap) (f':FIn D' s.heap) (rd:RD D v d) (rd':RD D' v' e) (h1:shaped d=true) (h2:shaped e=true) (h:Q (.bool (!PyData.eqv d e)) s):WP w A (compareOp .NotEq v v') Q s:=by
 obtain⟨as,ra⟩:=rd.reads f
 obtain⟨bs,rb⟩:=rd'.reads f'
 have hu:A.units+64<cLine:=by have:=r.units; have e:cLine=9900:=rfl; lia
 exact .of (compareNe_shaped ra rb h1 h2 hu h)
end
theorem RDs.drop {D:List Fz}:∀ {n:Nat}{v:List Value}{d:List PyData},RDs D v d→RDs D (v.drop n) (d.drop n)
 | 0,_,_,h=>h
 | _+1,_,_,.nil=>.nil
 | n+1,_,_,.cons _ b=>RDs.drop (n:=n) b
theorem RDs.reint {D D':List Fz}{ns:List Int}:∀ {v:List Value},RDs D v (ns.map .int)→RDs D' v (ns.map .int):=by
 induction ns with
 | nil=>intro v h; rw[RDs.unnil h]; exact .nil
 | cons i ns ih=>
  intro v h
  obtain⟨x,u,rfl,a,b⟩:=RDs.uncons (ds:=ns.map .int) h
  obtain⟨t,rfl⟩:=a.inti
  exact .cons (.int i t) (ih b)
noncomputable def abv (ns:List Int):PyData:=.list (ns.map .int)
theorem agZ:∀ ns:List Int,ns.length≤4→shaped (abv ns)=true
 | [],_=>rfl
 | [_],_=>rfl
 | [_,_],_=>rfl
 | [_,_,_],_=>rfl
 | [_,_,_,_],_=>rfl
 | _::_::_::_::_::_,h=>by simp at h
end
theorem o1 {n i N:Nat}(e:n=N - i) (h:i<N):N - (i+1)<n:=by exact q1 ‹_› ‹_›
theorem o2 {α:Type}{a:Array α}{N i:Nat}(e:a.size=N) (h:N≤i):a[i]? = none:=Array.getElem?_eq_none_iff.mpr (by lia)
theorem o3 (N i:Nat):(N:Int) - (i:Nat) - 1=(N:Int) - ((i+1:Nat):Int):=by push_cast; exact q15
theorem o4 (N:Nat):(N:Int) - ((0:Nat):Int)=N:=by simp +arith
theorem o5 {N i:Nat}(h:i<N):0<(N:Int) - ((i:Nat):Int):=by exact q45 ‹_›
theorem o6 {N i:Nat}(h:¬ i<N):(N:Int) - ((i:Nat):Int)≤0:=by lia
theorem o7 {N i:Nat}(h1:¬ i<N) (h2:i≤N):i=N:=by exact q24 ‹_› ‹_›
section
variable {w:World}{A:Around}{s:Shared}{env:Env}
end
theorem RDs.size {D:List Fz}{vs:Array Value}{d:List PyData}(h:RDs D vs.toList d):vs.size=d.length:=h.length
section
variable {w:World}{A:Around}{s s0:Shared}{env:Env}{L:List Res}{fp:Addr→Prop}{gp:Nat→Prop}{ns gs:List Str}
inductive at7 (env:Env) (ns:List Str) (fv:Option Value→List (Option Value)) (w:World) (fp:Addr→Prop) (gp:Nat→Prop) (s0:Shared) (acc it l:Addr) (N:Nat) (D0:List Fz) (p:Nat→List PyData) (L:List Res) (n:Nat) (s':Shared):Prop
 | mk (k v D vs):n=N - k→k≤N→(∀ f∈D0,f∈D)→RDs D vs.toList (p k)→aa0 s' (aa1 env.locals (aal ns (fv v))::aa5 w fp gp s0::abx it l k::aa2 acc vs::fzR D::L)→at7 env ns fv w fp gp s0 acc it l N D0 p L n s'
theorem ajz {x:Str}{o e:Expr}{apos pos p1 p6:Pos}{fv:Option Value→List (Option Value)}{acc it l:Addr}{items:Array Value}{N:Nat}{D0 D:List Fz}{p:Nat→List PyData}{d:Nat→PyData}{v:Option Value}{vs:Array Value}{Q:Flow→Shared→Prop}
  (i:Nat) (hh:A.handled=none) (F:aa8 env ns gs) (hlen:∀ v,ns.length=(fv v).length) (hset:∀ v y,(fv v).set i (some y)=fv (some y))
  (hl:⟨false,l,items⟩∈D0) (hN:items.size=N) (hp:∀ k,k<N→p (k+1)=p k++[d k]) (hz:∀ k,k≤N→(p k).length≤1000) (k0:∀ f∈D0,f∈D) (h0:RDs D vs.toList (p 0))
  (H:aa0 s (aa1 env.locals (aal ns (fv v))::aa5 w fp gp s0::abx it l 0::aa2 acc vs::fzR D::L))
  (ho:∀ y s (Q:Value→Shared→Prop) L,aa0 s (aa1 env.locals (aal ns (fv (some y)))::L)→Q (.ref acc) s→WP w A (eval o env) Q s)
  (he:∀ k y s D vs (Q:Value→Shared→Prop),k<N→items[k]? = some y→(∀ f∈D0,f∈D)→aa0 s (aa1 env.locals (aal ns (fv (some y)))::aa5 w fp gp s0::abx it l (k+1)::aa2 acc vs::fzR D::L)→
   (∀ s' z D',(∀ f∈D,f∈D')→RD D' z (d k)→aa0 s' (aa1 env.locals (aal ns (fv (some y)))::aa5 w fp gp s0::abx it l (k+1)::aa2 acc vs::fzR D'::L)→Q z s')→WP w A (eval e env) Q s)
  (h:∀ s' v D vs,(∀ f∈D0,f∈D)→RDs D vs.toList (p N)→aa0 s' (aa1 env.locals (aal ns (fv v))::aa5 w fp gp s0::aa2 acc vs::fzR D::L)→Q .next s')
  (hx:ns[i]? = some x:=by rfl) (hbase:attributeBase o "append" env (eval o env)=eval o env:=by rfl) (hst:starEach [e] env=[(false,eval e env)]:=by rfl) (hline:(apos.endLine==pos.line)=true:=by rfl)
  (hs:swapsWith (.Call (.Attribute o "append" apos) [e] [] pos) none p6.line env=pure false:=by rfl) :
  CP w A (.forLoop (.Name x p1) (.ref it) [.Expr (.Call (.Attribute o "append" apos) [e] [] pos) p6] [] env) Q s:=by
 refine abB (I:=at7 env ns fv w fp gp s0 acc it l N D0 p L) (fun n s' hI=>?_) _ ⟨0,v,D,vs,rfl,Nat.zero_le _,k0,h0,H⟩
 obtain⟨k,v,D,vs,en,hk,kD,hd,H⟩:=hI
 have hls:s'.heap.IsList l items:=(show s'.heap.PlainList l items from aas (H.at [_,_,_,_]) _ (kD _ hl)).isList
 cases hr:items[k]? with
 | none=>
  have e:=o7 (fun z=>Nat.not_le.mpr (hN▸z) (Array.getElem?_eq_none_iff.mp hr)) hk
  subst e
  refine abF [_,_] hh H hls hr fun s H=>?_
  exact h s v D vs kD hd (aa0.cut 1 (H.pick [2,0,1,3,4] 5))
 | some y=>
  have hlt:k<N:=hN▸(Array.getElem?_eq_some_iff.mp hr).1
  refine aaN [_,_] H hls hr fun s H=>afs<|ajf<|sL i F H (hlen v) (fun s H=>?_) hx
  rw[hset] at H
  refine aa7<|afi F.inter (alP (ho y s _ _ H ⟨acc,vs,rfl,H.at [_,_,_],?_⟩) hbase hst hline) hs
  exact he k y s D vs _ hlt hr kD H fun s z D' k2 rd H=>⟨[_,_,_],_,_,H,hd.size▸hz k hk,fun s H=>aer<|aaL ⟨_,o1 en hlt,k+1,some y,D',vs.push z,rfl,hlt,fun f m=>k2 f (kD f m),by simp only[hp k hlt,Array.toList_push]; exact (hd.mono k2).append (.cons rd .nil),H⟩⟩
end
section
open Builtin Builtin.ObjectAttr PySem.SeqAt
noncomputable def aia (cs:List Nat):PyData:=abv (cs.map fun c:Nat=>(c:Int))
noncomputable def asn (ws:List (List Int)):PyData:=.list (ws.map abv)
theorem FIn.one {f:Fz}{h:Heap}(x:f.In h):FIn [f] h:=fun g m=>by
 rcases List.mem_singleton.mp m with rfl
 exact x
theorem anr:PyData.eqv (aia []) (.list [])=true:=by rfl
theorem akR (c:Nat) (cs:List Nat):PyData.eqv (aia (c::cs)) (.list [])=false:=by rfl
theorem afD {α β:Type}{g:α→List β}{b:Nat}:∀ (l:List α),(∀ x∈l,(g x).length≤b)→(l.flatMap g).length≤l.length * b:=by
 intro xX
 induction xX with
 | nil=>refine @fun J=>?_; simp
 | cons a l ih=>
  refine @fun h=>?_
  simp only[List.flatMap_cons,List.length_append,List.length_cons,Nat.add_mul,Nat.one_mul]
  have h1:=h a (.head _)
  have h2:=ih fun x m=>h x (.tail _ m)
  lia
theorem alC:∀ (cs:List Nat) (total:Nat),total≤4→(adk total cs).length≤5 ^ cs.length:=by
 intro xX
 induction xX with
 | nil=>refine @fun total h=>?_; unfold adk; split<;>simp
 | cons c cs ih=>
  refine @fun total h=>?_
  have h1:=afD (g:=fun k=>(adk (total - k * c) cs).map ((k:Int)::·)) (b:=5 ^ cs.length) (List.range (total / c+1)) fun k J=>by
   rw[List.length_map]
   exact ih _ (by omega)
  refine Nat.le_trans h1 ?_
  simp only[List.length_range,List.length_cons,Nat.pow_succ,Nat.mul_comm (5 ^ cs.length)]
  have:total / c≤total:=Nat.div_le_self ..
  exact Nat.mul_le_mul_right _ (by lia)
theorem acn:∀ (cs:List Nat) (total:Nat),∀ x∈adk total cs,x.length=cs.length:=by
 intro xX
 induction xX with
 | nil=>
  refine @fun total x h=>?_
  unfold adk at h
  split at h
  ·rw[List.mem_singleton.mp h]; rfl
  ·nomatch h
 | cons c cs ih=>
  refine @fun total x h=>?_
  obtain⟨k,_,h⟩:=List.mem_flatMap.mp h
  obtain⟨y,hy,rfl⟩:=List.mem_map.mp h
  simp[ih _ y hy]
noncomputable def asz:List Stmt:=adU (at' (aaa (D 14)) 2)
noncomputable def asx:Stmt:=at' asz 0
section
variable {w:World}{A:Around}{s s0:Shared}{env:Env}{L:List Res}{v0 v1 v4:Option Value}{m:Addr}{D0 D:List Fz}{vs wvs:Array Value}{fp:Addr→Prop}{gp:Nat→Prop}
noncomputable abbrev asB (env:Env) (v0 v1 v2 v3 v4:Option Value):Res:=aa1 env.locals (aal anV [v0,v1,v2,v3,v4])
theorem adQ {D:List Fz}{l:Addr}{xs:Array Value}{s:Shared}(h:(fzR D).P s) (m:⟨false,l,xs⟩∈D):s.heap.IsList l xs:=(show s.heap.PlainList l xs from aas h _ m).isList
theorem acN {α β:Type}{f:α→β}{l:List α}{k:Nat}{x:α}(h:l[k]? = some x):(l.take (k+1)).map f=(l.take k).map f++[f x]:=by
 simp only[List.take_add_one,h,List.map_append]; rfl
theorem getD_some {α:Type}{l:List α}{k:Nat}{d:α}(h:k<l.length):l[k]? = some (l.getD k d):=by simp only[List.getD_eq_getElem?_getD,List.getElem?_eq_getElem h]; rfl
theorem amc {i:Nat}{ti:Tok}{W prev:List (List Int)}{it wa:Addr}{Q:Flow→Shared→Prop}(hh:A.handled=none) (F:aa8 env anV aqy) (hwa:⟨false,wa,wvs⟩∈D0) (hwd:RDs D0 wvs.toList (W.map abv)) (hw:∀ x∈W,x.length≤10) (hz:prev.length+W.length≤900) (k0:∀ f∈D0,f∈D) (hds:RDs D vs.toList (prev.map abv))
  (H:aa0 s (asB env v0 v1 (some (.ref m)) (some (.int (i:Nat) ti)) v4::aa5 w fp gp s0::abx it wa 0::aa2 m vs::fzR D::L))
  (h:∀ s' v4 D' vs',(∀ f∈D0,f∈D')→RDs D' vs'.toList ((prev++W.map ((i:Int)::·)).map abv)→aa0 s' (asB env v0 v1 (some (.ref m)) (some (.int (i:Nat) ti)) v4::aa5 w fp gp s0::aa2 m vs'::fzR D'::L)→Q .next s'):CP w A (adK asx (.ref it) env) Q s:=by
 have hN:wvs.size=W.length:=by have:=hwd.size; rwa [List.length_map] at this
 refine ajz (fv:=fun v4=>[v0,v1,some (.ref m),some (.int (i:Nat) ti),v4]) (p:=fun k=>(prev++(W.take k).map ((i:Int)::·)).map abv) (d:=fun k=>abv ((i:Int)::W.getD k [])) 4 hh F (fun J=>rfl) (fun J J=>rfl) hwa hN (fun k hk=>?_) (fun k hk=>?_) k0 (by rwa [List.take_zero,List.map_nil,List.append_nil]) H (fun y s Q L H q=>dL 2 F H rfl q) (fun k y s D vs Q hk hy k0 H hq=>?_) (fun s v D vs k0 hd H=>?_)
 ·rw[acN (getD_some (d:=[]) hk),← List.append_assoc,List.map_append]; rfl
 ·simp only[List.length_map,List.length_append,List.length_map,List.length_take]
  exact Nat.le_trans (Nat.add_le_add_left (Nat.min_le_right ..) _) (Nat.le_trans hz (by decide))
 ·have e:=getD_some (d:=[]) hk
  generalize eg:W.getD k [] = wq at e
  obtain⟨y',hy',hyd⟩:=hwd.get (i:=k) (y:=abv wq) (by rw[List.getElem?_map,e]; rfl)
  cases hy.symm.trans ((Array.getElem?_toList ..).symm.trans hy')
  obtain⟨ya,yvs,rfl,hya,hyds⟩:=hyd.lst
  have hl:yvs.toList.length=wq.length:=by have:=hyds.length; rwa [List.length_map] at this
  exists 0,abG ?_,ab5 ?_,spL 3 F H rfl ?_,aa6 ⟨_,_,_,H,aam,fun s q H=>dL 4 F H rfl ?_⟩
  exists aov (vs:=[.int (i:Nat) ti]) (ws:=yvs.toList) H (show Heap.PlainList _ q _ from H.at [_,_]).isList (adQ (H.at [_,_,_,_,_]) (k0 _ hya)) (by simp only[hl,Nat.add_comm]; exact Nat.le_trans (Nat.succ_le_succ (hw wq (List.mem_of_getElem? e))) (by decide)) fun s c H=>?_
  refine hq s _ _ (fun f m=>.tail _ m) (.list (.head _) ?_) (aa0.cut 1 ((aa0.fzAdd [_,_,_,_] ⟨false,c,([Value.int (i:Nat) ti]++yvs.toList).toArray⟩ (H.pick [0,1,4,5,6,2,3] 7)).pick [5,0,1,2,3,4] 6))
  rw[eg]
  exact .cons (.int _ _) ((hyds.mono k0).mono fun f m=>.tail _ m)
 ·rw[List.take_length] at hd
  exact h s v D vs k0 hd H
noncomputable def aiz (total c:Nat) (cs:List Nat) (i:Nat):List (List Int):=(List.range i).flatMap fun k=>(adk (total - k * c) cs).map ((k:Int)::·)
theorem ahX {total c:Nat}{cs:List Nat}(i:Nat):aiz total c cs (i+1)=aiz total c cs i++(adk (total - i * c) cs).map ((i:Int)::·):=by
 unfold aiz
 simp only[List.range_succ,List.flatMap_append]; simp
theorem ajW {cs:List Nat}{total:Nat}(ht:total≤4) (hl:cs.length≤2):(adk total cs).length≤25:=Nat.le_trans (alC cs _ ht) (Nat.le_trans (Nat.pow_le_pow_right (by decide) hl) (by decide))
theorem ajN {total c:Nat}{cs:List Nat}{i:Nat}(ht:total≤4) (hl:cs.length≤2) (hi:i≤5):(aiz total c cs i).length≤125:=by
 have h1:=afD (g:=fun k=>(adk (total - k * c) cs).map ((k:Int)::·)) (b:=25) (List.range i) fun k J=>by
  rw[List.length_map]
  exact ajW (Nat.le_trans (Nat.sub_le ..) ht) hl
 rw[List.length_range] at h1
 exact Nat.le_trans h1 (Nat.mul_le_mul_right 25 hi)
inductive aqs (env:Env) (v0 v1:Option Value) (m it rg:Addr) (N total c:Nat) (cs:List Nat) (t1 t2 t3:Tok) (w:World) (s0:Shared) (n:Nat) (s':Shared):Prop
 | mk (i v3 v4 D vs):n=N - i→i≤N→RDs D vs.toList ((aiz total c cs i).map abv)→aa0 s' (asB env v0 v1 (some (.ref m)) v3 v4::aa5 w aaD aaD s0::ahS it (i:Nat) ((N:Int) - (i:Nat)) 1::aa2 m vs::fzR D::akB rg 0 N 1 t1 t2 t3::[])→aqs env v0 v1 m it rg N total c cs t1 t2 t3 w s0 n s'
theorem apU:∀ (cs:List Nat) {A:Around}{s:Shared}{D:List Fz}{v:Value}{total:Nat}{tt:Tok}{Q:Value→Shared→Prop},aah A (cs.length+2) (3 * cs.length+6)→Bs w s.heap→FIn D s.heap→RD D v (aia cs)→cs.length≤3→(∀ c∈cs,1≤c∧c≤3)→total≤4→
  (∀ s' v' D',acr (fzR D') s s'→RD D' v' (asn (adk total cs))→Q v' s')→WP w A (call (.ref 318) [.int total tt,v]) Q s:=by
 intro cs
 induction cs with
 | nil=>
  intro A s D v total tt Q r B f rd hlen hc ht h
  exists adi (d:=1) (u:=3) (vs:=[some _,some _,none,none,none]) aqL r B (aa0.start B) rfl (BindsTo.of_eq (by kernel_rfl)) (lb rfl) rfl fun A' env s₁ r' F H=>?_,aa7 ?_,dIf ?_
  refine abS ?_
  exists dL 1 F H rfl ?_,ab5 ?_,aa6 ⟨_,_,_,H,aam,fun s₂ b H=>?_⟩
  replace H:=aa0.fzAdd (D:=[]) [_,_] ⟨false,b,#[]⟩ (aa0.fzNew [_,_] H)
  exists 0,aqR (D:=D) (d:=aia []) (e:=.list []) r' (f.keeps H.old) (aas (H.at [_,_])) rd (.list (.head _) .nil) rfl rfl ?_,tB ?_
  refine ifP (anr) ?_
  exists aa7 ?_,agD ?_,anZ ?_,tLI 0 F H rfl fun s3 t H=>?_,tEq ?_
  by_cases h0:total=0
  ·refine ifP ((by simpa using h0)) ?_
   exists ab5 ?_,aa3 ?_,ab5 ?_,aa6 ⟨_,_,_,H,aam,fun s4' b2 H=>aa6 ⟨_,_,_,H,aam,fun s5 b3 H=>?_⟩⟩
   refine h _ _ _ (aa0.fzAdd [_,_] ⟨false,b3,#[.ref b2]⟩ (aa0.fzAdd [_,_] ⟨false,b2,#[]⟩ (H.pick [0,1,4,3,2] 5))).out ?_
   rw[show adk total [] = [[]] by simp[adk,h0]]
   exact .list (.head _) (.cons (.list (.tail _ (.head _)) .nil) .nil)
  ·refine ifN ((by simpa using h0)) ?_
   exists ab5 ?_,aa6 ⟨_,_,_,H,aam,fun s5 b3 H=>?_⟩
   refine h _ _ _ (aa0.fzAdd [_,_] ⟨false,b3,#[]⟩ (H.pick [0,1,3,2] 4)).out ?_
   rw[show adk total [] = [] by simp[adk,h0]]
   exact .list (.head _) .nil
 | cons c cs ih=>
  intro A s D v total tt Q r B f rd hlen hc ht h
  obtain⟨ca,cvs,rfl,hca,hcd⟩:=rd.lst
  have rd:RD D (.ref ca) (aia (c::cs)):=.list hca hcd
  obtain⟨c1,c3⟩:=hc c (.head _)
  have hcl:cvs.size=cs.length+1:=by have:=hcd.length; simpa using this
  simp only[List.length_cons] at hlen r
  obtain⟨x0,hx0,hx0d⟩:=hcd.get (i:=0) (y:=.int c) rfl
  obtain⟨tc,rfl⟩:=hx0d.inti
  have hx0:cvs[0]? = some (.int c tc):=by simpa using hx0
  exists adi (d:=cs.length+2) (u:=3 * cs.length+6) (vs:=[some _,some _,none,none,none]) aqL (r.mono (by exact q56) (by exact q44)) B (aa0.start B) rfl (BindsTo.of_eq (by kernel_rfl)) (lb rfl) rfl fun A' env s₁ r' F H=>?_,0,aa7 ?_,dIf ?_
  refine abS ?_
  exists dL 1 F H rfl ?_,ab5 ?_,aa6 ⟨_,_,_,H,aam,fun s₂ b H=>?_⟩
  replace H:=aa0.fzAdd (D:=[]) [_,_] ⟨false,b,#[]⟩ (aa0.fzNew [_,_] H)
  exists aqR (D:=D) (d:=aia (c::cs)) (e:=.list []) (r'.mono (by exact lb rfl) (by exact lb rfl)) (f.keeps H.old) (aas (H.at [_,_])) rd (.list (.head _) .nil) (agZ _ (by simp; exact q40 ‹_›)) rfl ?_,tB ?_
  refine ifN ((by rw[akR]; decide)) ?_
  have hlst:∀ {s₂:Shared} {R₁:Res} {L:List Res},aa0 s₂ (R₁::aa5 w aaD aaD s::L)→s₂.heap.IsList ca cvs:=fun H=>(show Heap.PlainList _ ca cvs from f.keeps H.old _ hca).isList
  exists aaL ?_,aa7 ?_,ac8 ?_
  refine ab5 ?_
  exists aa6 ⟨_,_,_,H,aam,fun s₂ m H=>sL 2 F H rfl fun s₂ H=>?_⟩
  refine aa7 ?_
  refine aem ?_
  refine abo 0 9 F H ?_
  refine aa3 ?_
  refine abG ?_
  refine abG ?_
  refine dL 0 F H rfl ?_
  refine aaw ?_
  refine dL 1 F H rfl ?_
  refine aaW H fun s₂ t H=>?_
  refine abu (k:=0) (hlst H) hx0 (by decide) ?_
  refine aiI H (by lia) (by lia) fun s₂ t H=>?_
  refine aaW H fun s₂ t H=>?_
  refine ana H fun s₂ t H=>?_
  refine aa6 ?_
  have eN:(total:Int).fdiv c+1=((total / c+1:Nat):Int):=by
   rw[Int.fdiv_eq_ediv_of_nonneg _ (by simp +arith)]; push_cast; rfl
  rw[eN]
  have hN:total / c≤4:=Nat.le_trans (Nat.div_le_self ..) ht
  have hN5:total / c+1≤5:=Nat.succ_le_succ hN
  generalize eNN:total / c+1=N at hN5
  exists aeB H fun s₂ rg t1 t2 t3 H=>?_,aeF [] H (by lia) fun s₂ it H=>?_
  refine abB (I:=aqs env (some (.int total tt)) (some (.ref ca)) m it rg N total c cs t1 t2 t3 w s) (fun n s' hI=>?_) _ ⟨0,none,none,[⟨false,b,#[]⟩],#[],rfl,Nat.zero_le _,.nil,(o4 N).symm▸H.pick [0,1,2,4,5,3] 6⟩
  clear H
  obtain⟨i,v3,v4,Dm,vs,en,hi,hds,H⟩:=hI
  by_cases hiN:i<N
  ·exists agx [_,_] H (o5 hiN) fun s3 ti H=>?_,goS 3 F H rfl fun s3 H=>?_,0
   have hki:i * c≤total:=Nat.le_trans (Nat.mul_le_mul_right c (Nat.le_of_lt_succ (Nat.lt_of_lt_of_eq hiN eNN.symm))) (Nat.div_mul_le_self total c)
   have hl2:cs.length≤2:=Nat.le_of_succ_le_succ hlen
   have ht4:total - i * c≤4:=Nat.le_trans (Nat.sub_le ..) ht
   exists aa7 ?_,aem ?_,acj 1 10 F aqL H ?_,aa3 ?_
   refine abG ?_
   exists dL 0 F H rfl ?_,abG ?_,dL 3 F H rfl ?_,aeh 1 F H rfl fun s3 t H=>?_,abu (k:=0) (hlst H) hx0 (by decide) ?_,aqS H (by lia) fun s3 t H=>?_,arj H fun s3 t H=>?_,aa3 ?_,apH (a:=1) ?_,dL 1 F H rfl ⟨ca,cvs,_,_,_,rfl,H,fun s H=>hlst H,by rw[hcl]; exact Nat.le_add_left ..,by rw[hcl]; exact Nat.le_trans (Nat.succ_le_succ hl2) (by decide),fun J=>rfl,fun s3 b2 H=>aa6 ⟨H.bs,?_⟩⟩
   have e1:(total:Int) - ((i:Nat):Int) * (c:Int)=((total - i * c:Nat):Int):=by push_cast [hki]; rfl
   rw[e1]
   have hb:FIn [⟨false,b2,(cvs.toList.drop 1).toArray⟩] s3.heap:=FIn.one (show Heap.PlainList _ b2 _ from H.at [_,_])
   refine ih (r'.mono (Nat.le_refl _) (Nat.le_refl _)) H.bs hb (.list (.head _) (by simpa using (hcd.drop (n:=1)).reint)) (Nat.le_of_succ_le hlen) (fun x m=>hc x (.tail _ m)) ht4 fun s4' v' D' mk rd'=>?_
   replace H:=H.made mk
   obtain⟨wa,wvs,rfl,hwa,hwd⟩:=rd'.lst
   exists aaM (adQ ((aa0.fzJoin [_,_,_,_,_,_] (aa0.pick (L:=_::_::fzR D'::aa2 b2 _::_::_::_::_::[]) [3,0,1,4,5,7,2,6] 8 H)).at [_,_,_,_,_,_]) (List.mem_append_left _ hwa)) (aa0.cut 1 (aa0.fzJoin [_,_,_,_,_,_] (aa0.pick (L:=_::_::fzR D'::aa2 b2 _::_::_::_::_::[]) [3,0,1,4,5,7,2,6] 8 H))) fun s5 it2 H=>?_
   refine amc (D0:=D') (L:=[_,_]) r'.handled F hwa hwd (fun x m=>?_) (prev:=aiz total c cs i) ?_ (fun f m=>List.mem_append_left _ m) (hds.mono fun f m=>List.mem_append_right _ m) (H.pick [0,1,2,4,6,3,5] 7) fun s v4 D2 vs2 k0 hds H=>?_
   ·rw[acn cs _ x m]; exact Nat.le_trans hl2 (by decide)
   ·exact Nat.le_trans (Nat.add_le_add (ajN ht hl2 (Nat.le_trans hi hN5)) (ajW ht4 hl2)) (by decide)
   ·rw[← ahX] at hds
    rw[o3] at H
    exact aaL ⟨_,o1 en hiN,i+1,_,v4,D2,vs2,rfl,hiN,hds,H.pick [0,1,4,2,3,5] 6⟩
  ·cases o7 hiN hi
   exists ajk [_,_] r'.handled H (o6 hiN) fun s3 H=>?_,aa7 ?_,agD ?_,dL 2 F H rfl ?_
   refine h _ _ _ (aa0.fzAdd [_,_] ⟨false,m,vs⟩ (H.pick [0,1,4,3,2,5] 6)).out (.list (.head _) ?_)
   simp only[← eNN] at hds
   exact hds.mono fun f m=>.tail _ m
end
section
variable {w:World}{A:Around}{s s0:Shared}{env:Env}{L:List Res}{ns gs:List Str}
inductive aqz (items:Array Value) (ds:List PyData) (cenv:Env) (nm:Str) (R R₂:Res) (acc it la:Addr) (L:List Res) (n:Nat) (s':Shared):Prop
 | mk (i vr D vs):n=items.size - i→i≤items.size→vs.size=i→RDs D vs.toList (ds.take i)→aa0 s' (aa1 cenv.locals (aal [".0",nm] [none,vr])::R::R₂::aa2 acc vs::abx it la i::fzR D::L)→aqz items ds cenv nm R R₂ acc it la L n s'
inductive apB (ds:List PyData) (cenv:Env) (nm:Str) (R R₂:Res) (acc:Addr) (L:List Res) (s':Shared):Prop
 | mk (vr D vs):RDs D vs.toList ds→aa0 s' (aa1 cenv.locals (aal [".0",nm] [none,vr])::R::R₂::aa2 acc vs::emp::fzR D::L)→apB ds cenv nm R R₂ acc L s'
inductive atb (w:World) (A:Around) (elt:Expr) (nm:Str) (csC:List Str) (asC:List Addr) (gsC:List Str) (Q:Value→Shared→Prop) (x:Value) (s₁:Shared):Prop
 | mk (la items R R₂ L) (ds:List PyData):x=.ref la→aa0 s₁ (R::R₂::L)→(∀ s':Shared,aa0 s' (R::R₂::L)→s'.heap.IsList la items)→items.size≤999→ds.length=items.size→(∀ (cenv:Env) (i:Nat) (x:Value) (d:PyData) (s₂:Shared) (X Y Z:Res),aa8 cenv [".0",nm] gsC→aap cenv .cell csC asC→items[i]? = some x→ds[i]? = some d→aa0 s₂ (aa1 cenv.locals (aal [".0",nm] [none,some x])::R::R₂::X::Y::Z::L)→abq [X,Y,Z]→WP w A (eval elt cenv) (fun y s3=>∃ D2,aa0 s3 (aa1 cenv.locals (aal [".0",nm] [none,some x])::R::R₂::fzR D2::X::Y::Z::L)∧RD D2 y d) s₂)→(∀ s' v D,aa0 s' (R::R₂::fzR D::L)→RD D v (.list ds)→Q v s')→atb w A elt nm csC asC gsC Q x s₁
theorem amv {elt iter:Expr}{nm:Str}{np:Pos}{scope:Scope}{pos:Pos}{csC:List Str}{asC:List Addr}{Q:Value→Shared→Prop}(hh:A.handled=none) (F:aa8 env ns gs) (C:aap env .cell csC asC) (gsC:List Str)
  (h:WP w A (eval iter env) (atb w A elt nm csC asC gsC Q) s)
  (chk:acT scope [".0",nm] csC gsC=true:=by rfl) (hlen:csC.length=asC.length:=by rfl) (hs:∀ x,foldedSetIterable iter env x=pure x:=by intro _; rfl):WP w A (eval (LC elt (.Name nm np) iter [] scope pos) env) Q s:=by
 exists agq F C [".0",nm] gsC ?_ chk hlen hs
 refine h.mono fun xv s₁ hI=>?_
 obtain⟨la,items,R,R₂,L,ds,e,H,hl,hsz,hdl,hstep,hQ⟩:=hI
 subst e
 exists aaM (hl _ H) H fun s₂ it H=>?_
 refine⟨_,_,_,H,fun cenv acc s3 Fc Cc H=>?_⟩
 refine abj [_,_,_,_] H ?_
 refine CP.mono (abb (aqz items ds cenv nm R R₂ acc it la L) (apB ds cenv nm R R₂ acc L) (fun n s' hI=>?_) _ ⟨0,none,[],#[],rfl,Nat.zero_le _,rfl,.nil,H.fzNew [_,_,_,_,_]⟩) (fun f s4' ⟨_,vr,D,vs,hd,H⟩=>⟨_,_,H,fun s5 H=>?_⟩)
 ·obtain⟨i,vr,D,vs,e,hi,hz,hd,H⟩:=hI
  have hlist:∀ {s'} {m:Str→Option Value} {vs:Array Value} {j:Nat} {D:List Fz},aa0 s' (aa1 cenv.locals m::R::R₂::aa2 acc vs::abx it la j::fzR D::L)→s'.heap.IsList la items:=fun {s'} {m} {vs} {j} {D} H=>hl _ (aa0.cut 4 (H.pick [0,3,4,5,1,2] 6) ⟨fun J z=>z,fun J z=>z,fun J z=>z,abp _,trivial⟩)
  cases hr:items[i]? with
  | none=>
   exists abF [_,_,_,_] hh H (hlist H) hr fun s₂ H=>?_
   refine⟨vr,D,vs,?_,H⟩
   have e0:ds.take i=ds:=List.take_of_length_le (by have:=Array.getElem?_eq_none_iff.mp hr; exact q11 ‹_› ‹_› ‹_›)
   rw[e0] at hd
   exact hd
  | some x=>
   have hlt:=(Array.getElem?_eq_some_iff.mp hr).1
   have hdi:ds[i]? = some (ds[i]'(by exact q29 ‹_› ‹_›)):=List.getElem?_eq_getElem _
   exists aaN [_,_,_,_] H (hlist H) hr fun s₂ H=>?_,goS 1 Fc H rfl fun s₂ H=>?_
   show WP w A (eval elt cenv) _ _
   refine (hstep cenv i x _ s₂ _ _ _ Fc Cc hr hdi H ⟨fun J z=>z,fun J z=>z,abp _,trivial⟩).mono fun y s3 ⟨D2,H,hy⟩=>?_
   exists abE [_,_,_,_] H (by lia) fun s5 H=>?_
   refine⟨items.size - (i+1),by exact q1 ‹_› ‹_›,i+1,_,_,_,rfl,hlt,by rw[Array.size_push,hz],?_,(aa0.fzJoin [_,_,_,_,_] (H.pick [0,1,2,4,5,3,6] 7))⟩
   simp only[List.take_add_one,hdi,Array.toList_push,Option.toList_some]
   exact RDs.append (hd.mono fun f m=>List.mem_append_right _ m) (.cons (hy.mono fun f m=>List.mem_append_left _ m) .nil)
 ·have H2:=aa0.fzAdd [_,_] ⟨false,acc,vs⟩ (H.pick [0,1,4,2,3] 5)
  exact hQ _ _ _ (aa0.cut 1 (H2.pick [3,0,1,2] 4)) (.list (.head _) (hd.mono fun f m=>.tail _ m))
end
structure aaJ where
 name:Option Str
 count:Nat
 least:Nat
 dflt:Option Str
noncomputable def aoQ:Option Str→PyData
 | none=>.none
 | some x=>.str x
noncomputable def pvD (p:aaJ):PyData:=.tuple [aoQ p.name,.int p.count,.int p.least,aoQ p.dflt]
noncomputable def pcs (vars:List aaJ):List Nat:=vars.map (·.count)
noncomputable def ab6 (cs:List Nat) (rows:List (List (List Int))) (a:Nat):List (List (List Int)):=(adk a cs).flatMap fun way=>rows.map (·++[way])
noncomputable def aav (cs:List Nat) (ams:List Nat):List (List (List Int)):=ams.foldl (ab6 cs) [[]]
noncomputable def ai0 (r:List (List Int)):PyData:=.list (r.map abv)
noncomputable def aql (rs:List (List (List Int))):PyData:=.list (rs.map ai0)
theorem RDs.none {D:List Fz}{l:List Value}(h:RDs D l []):l=[]:=by cases h; rfl
inductive at4 (D:List Fz) (v:Value) (p:aaJ):Prop
 | mk (T nv ct mt dv):v=.ref T→⟨true,T,#[nv,.int p.count ct,.int p.least mt,dv]⟩∈D→RD D nv (aoQ p.name)→RD D dv (aoQ p.dflt)→at4 D v p
theorem agA {D:List Fz}{v:Value}{p:aaJ}(h:RD D v (pvD p)):at4 D v p:=by
 obtain⟨T,⟨l⟩,rfl,hT,hd⟩:=h.tup
 obtain⟨v1,l,rfl,h1,hd⟩:=hd.uncons
 obtain⟨v2,l,rfl,h2,hd⟩:=hd.uncons
 obtain⟨v3,l,rfl,h3,hd⟩:=hd.uncons
 obtain⟨v4,l,rfl,h4,hd⟩:=hd.uncons
 cases hd.none
 obtain⟨ct,rfl⟩:=h2.inti
 obtain⟨mt,rfl⟩:=h3.inti
 exact⟨T,v1,ct,mt,v4,rfl,hT,h1,h4⟩
theorem ade (cs:List Nat):∀ (ams:List Nat) (rs:List (List (List Int))) (n:Nat),(∀ r∈rs,r.length=n)→∀ r∈ams.foldl (ab6 cs) rs,r.length=n+ams.length:=by
 intro xX
 induction xX with
 | nil=>exact @fun rs n h=>h
 | cons a ams ih=>
  refine @fun rs n h=>?_
  intro r hr
  have:=ih (ab6 cs rs a) (n+1) (fun x hx=>by
   obtain⟨way,_,hx⟩:=List.mem_flatMap.mp hx
   obtain⟨y,hy,rfl⟩:=List.mem_map.mp hx
   rw[List.length_append,h y hy]; rfl) r hr
  simp only[this,List.length_cons]; exact q23
noncomputable def aoe:List Stmt:=adU (at' (aaa (D 15)) 1)
noncomputable def arP:List Stmt:=adU (at' aoe 1)
noncomputable abbrev amN (env:Env) (v0 v1 v2 v3 v4 v5 v6:Option Value):Res:=aa1 env.locals (aal akA [v0,v1,v2,v3,v4,v5,v6])
noncomputable def adc (RW:List (List (List Int))) (W:List (List Int)):List (List (List Int)):=W.flatMap fun way=>RW.map (·++[way])
theorem ajH {RW:List (List (List Int))}{W:List (List Int)}(j:Nat):(adc RW (W.take j)).length≤(adc RW W).length:=by
 unfold adc
 conv=>rhs; rw[← List.take_append_drop j W,List.flatMap_append,List.length_append]
 exact Nat.le_add_right ..
theorem aeS {RW:List (List (List Int))}{W:List (List Int)}{j:Nat}{way:List Int}(h:W[j]? = some way):adc RW (W.take (j+1))=adc RW (W.take j)++RW.map (·++[way]):=by
 unfold adc
 simp only[List.take_add_one,h,List.flatMap_append]; simp
section
variable {w:World}{A:Around}{s s0:Shared}{env:Env}{L:List Res}{fp:Addr→Prop}{gp:Nat→Prop}{v0 v1 v2 v3 v4 v5 v6:Option Value}{rl lo:Addr}{rvs vs:Array Value}{D0 D:List Fz}{RW:List (List (List Int))}{W:List (List Int)}{x:Value}{way:List Int}
theorem ane {prev:List (List (List Int))}{Q:Flow→Shared→Prop}(hh:A.handled=none) (F:aa8 env akA alB) (hrl:⟨false,rl,rvs⟩∈D0) (hrd:RDs D0 rvs.toList (RW.map ai0)) (hx:RD D0 x (abv way)) (hw:∀ row∈RW,row.length≤10) (hz:prev.length+RW.length≤900) (k0:∀ f∈D0,f∈D) (hds:RDs D vs.toList (prev.map ai0))
  (H:aa0 s (amN env v0 v1 (some (.ref rl)) v3 (some (.ref lo)) (some x) v6::aa5 w fp gp s0::aa2 lo vs::fzR D::L))
  (h:∀ s' v6 D' vs',(∀ f∈D0,f∈D')→RDs D' vs'.toList ((prev++RW.map (·++[way])).map ai0)→aa0 s' (amN env v0 v1 (some (.ref rl)) v3 (some (.ref lo)) (some x) v6::aa5 w fp gp s0::aa2 lo vs'::fzR D'::L)→Q .next s'):WP w A (execs arP env) Q s:=by
 exists aa7 ?_
 refine aem ?_
 exists dL 2 F H rfl ?_,aaM (adQ (H.at [_,_,_]) (k0 _ hrl)) H fun s it H=>?_
 have hN:rvs.size=RW.length:=by have:=hrd.size; rwa [List.length_map] at this
 refine ajz (fv:=fun v6=>[v0,v1,some (.ref rl),v3,some (.ref lo),some x,v6]) (p:=fun k=>(prev++(RW.take k).map (·++[way])).map ai0) (d:=fun k=>ai0 (RW.getD k []++[way])) 6 hh F (fun J=>rfl) (fun J J=>rfl) hrl hN (fun k hk=>?_) (fun k hk=>?_) k0 (by rwa [List.take_zero,List.map_nil,List.append_nil]) H (fun y s Q L H q=>dL 4 F H rfl q) (fun k y s D vs Q hk hy k0 H hq=>?_) (fun s v D vs k0 hd H=>?_)
 ·have e:RW[k]? = some (RW.getD k []):=by rw[List.getD_eq_getElem?_getD,List.getElem?_eq_getElem hk]; rfl
  rw[acN e,← List.append_assoc,List.map_append]; rfl
 ·simp only[List.length_map,List.length_append,List.length_map,List.length_take]
  exact Nat.le_trans (Nat.add_le_add_left (Nat.min_le_right ..) _) (Nat.le_trans hz (by decide))
 ·have e:RW[k]? = some (RW.getD k []):=by rw[List.getD_eq_getElem?_getD,List.getElem?_eq_getElem hk]; rfl
  generalize eg:RW.getD k [] = row at e
  obtain⟨y',hy',hyd⟩:=hrd.get (i:=k) (y:=ai0 row) (by rw[List.getElem?_map,e]; rfl)
  cases hy.symm.trans ((Array.getElem?_toList ..).symm.trans hy')
  obtain⟨ya,yvs,rfl,hya,hyds⟩:=hyd.lst
  have hl:yvs.toList.length=row.length:=by have:=hyds.length; rwa [List.length_map] at this
  exists 0,abG ?_,dL 6 F H rfl ?_,ab5 ?_,spL 5 F H rfl ?_,aa6 ⟨_,_,_,H,aam,fun s q H=>?_⟩
  exists aov (vs:=yvs.toList) (ws:=[x]) H (adQ (H.at [_,_,_,_,_]) (k0 _ hya)) (show Heap.PlainList _ q _ from H.at [_,_]).isList (by rw[hl]; exact Nat.le_trans (Nat.succ_le_succ (hw row (List.mem_of_getElem? e))) (by decide)) fun s c H=>?_
  refine hq s _ _ (fun f m=>.tail _ m) (.list (.head _) ?_) (aa0.cut 1 ((aa0.fzAdd [_,_,_,_] ⟨false,c,(yvs.toList++[x]).toArray⟩ (H.pick [0,1,4,5,6,2,3] 7)).pick [5,0,1,2,3,4] 6))
  rw[eg,List.map_append]
  exact ((hyds.mono k0).append (.cons (hx.mono k0) .nil)).mono fun f m=>.tail _ m
 ·rw[List.take_length] at hd
  exact aaL (h s v D vs k0 hd H)
inductive at2 (v0 v1:Option Value) (rl lo it wa:Addr) (v3:Option Value) (w:World) (fp:Addr→Prop) (gp:Nat→Prop) (s0:Shared) (env:Env) (D0:List Fz) (RW:List (List (List Int))) (W:List (List Int)) (L:List Res) (n:Nat) (s':Shared):Prop
 | mk (j v5 v6 D vs):n=W.length - j→j≤W.length→(∀ f∈D0,f∈D)→RDs D vs.toList ((adc RW (W.take j)).map ai0)→aa0 s' (amN env v0 v1 (some (.ref rl)) v3 (some (.ref lo)) v5 v6::aa5 w fp gp s0::abx it wa j::aa2 lo vs::fzR D::L)→at2 v0 v1 rl lo it wa v3 w fp gp s0 env D0 RW W L n s'
theorem aoa {it wa:Addr}{wvs:Array Value}{Q:Flow→Shared→Prop}(hh:A.handled=none) (F:aa8 env akA alB) (hrl:⟨false,rl,rvs⟩∈D0) (hrd:RDs D0 rvs.toList (RW.map ai0)) (hwa:⟨false,wa,wvs⟩∈D0) (hwd:RDs D0 wvs.toList (W.map abv)) (hw:∀ row∈RW,row.length≤10) (hz:(adc RW W).length≤900)
  (H:aa0 s (amN env v0 v1 (some (.ref rl)) v3 (some (.ref lo)) v5 v6::aa5 w fp gp s0::abx it wa 0::aa2 lo #[]::fzR D0::L))
  (h:∀ s' v5 v6 D' vs',(∀ f∈D0,f∈D')→RDs D' vs'.toList ((adc RW W).map ai0)→aa0 s' (amN env v0 v1 (some (.ref rl)) v3 (some (.ref lo)) v5 v6::aa5 w fp gp s0::aa2 lo vs'::fzR D'::L)→Q .next s'):CP w A (adK (at' aoe 1) (.ref it) env) Q s:=by
 refine abB (I:=at2 v0 v1 rl lo it wa v3 w fp gp s0 env D0 RW W L) (fun n s' hI=>?_) _ ⟨0,v5,v6,D0,#[],rfl,Nat.zero_le _,fun J m=>m,.nil,H⟩
 clear H
 obtain⟨j,v5,v6,D,vs,en,hj,k0,hds,H⟩:=hI
 have hN:wvs.size=W.length:=by have:=hwd.size; rwa [List.length_map] at this
 cases hr:W[j]? with
 | none=>
  have hjl:=List.getElem?_eq_none_iff.mp hr
  refine abF [_,_] hh H (adQ (H.at [_,_,_,_]) (k0 _ hwa)) (o2 hN hjl) fun s H=>?_
  rw[List.take_of_length_le hjl] at hds
  exact h s v5 v6 D vs k0 hds (aa0.cut 1 (H.pick [2,0,1,3,4] 5))
 | some way=>
  obtain⟨x,hx,hxd⟩:=hwd.get (i:=j) (y:=abv way) (by rw[List.getElem?_map,hr]; rfl)
  exists aaN [_,_] H (adQ (H.at [_,_,_,_]) (k0 _ hwa)) (by rwa [Array.getElem?_toList] at hx) fun s H=>?_,0,goS 5 F H rfl fun s H=>?_
  have hz2:(adc RW (W.take j)).length+RW.length≤900:=by
   have:=Nat.le_trans (ajH (RW:=RW) (j+1)) hz
   rwa [aeS hr,List.length_append,List.length_map] at this
  refine ane hh F hrl hrd hxd hw hz2 k0 hds (H.pick [0,1,3,4,2] 5) fun s v6 D vs k0 hds H=>?_
  rw[← aeS hr] at hds
  exact⟨_,o1 en ((List.getElem?_eq_some_iff.mp hr).1),j+1,some x,v6,D,vs,rfl,((List.getElem?_eq_some_iff.mp hr).1),k0,hds,H.pick [0,1,4,2,3] 5⟩
end
section
variable {w:World}{A:Around}{s s0:Shared}{env:Env}{L:List Res}{vl rl:Addr}{vvs rvs:Array Value}{va:Value}{vars:List aaJ}{Df D:List Fz}{RW:List (List (List Int))}{v0 v4 v5 v6:Option Value}
theorem aqt {a:Nat}{ta:Tok}{Q:Flow→Shared→Prop}(r:aah A 5 17) (F:aa8 env akA alB) (f:FIn Df s0.heap) (hvl:⟨false,vl,vvs⟩∈Df) (hvd:RDs Df vvs.toList (vars.map pvD)) (h3:vars.length≤3) (hc:∀ p∈vars,1≤p.count∧p.count≤3) (ha:a≤4)
  (hrl:⟨false,rl,rvs⟩∈D) (hrd:RDs D rvs.toList (RW.map ai0)) (hw:∀ row∈RW,row.length≤10) (hz:(adc RW (adk a (pcs vars))).length≤900)
  (H:aa0 s (amN env v0 (some (.ref vl)) (some (.ref rl)) (some (.int (a:Nat) ta)) v4 v5 v6::aa5 w aaD aaD s0::fzR D::L))
  (h:∀ s' lo v3 v4 v5 v6 D' vs,⟨false,lo,vs⟩∈D'→RDs D' vs.toList ((adc RW (adk a (pcs vars))).map ai0)→aa0 s' (amN env v0 (some (.ref vl)) (some (.ref lo)) v3 v4 v5 v6::aa5 w aaD aaD s0::fzR D'::L)→Q .next s'):WP w A (execs aoe env) Q s:=by
 have hvsz:vvs.size=vars.length:=by have:=hvd.size; rwa [List.length_map] at this
 exists 0,aa7 ?_,ac8 ?_,ab5 ?_,aa6 ⟨_,_,_,H,aam,fun s lo H=>sL 4 F H rfl fun s H=>?_⟩
 exists 0,aa7 ?_,aem ?_,acj 0 10 F aqL H ?_,spL 3 F H rfl ?_,aa3 ?_
 refine amv r.handled F aap.nil [] ?_
 refine dL 1 F H rfl ⟨vl,vvs,_,_,_,(pcs vars).map fun c:Nat=>PyData.int c,rfl,H,fun s H=>(show Heap.PlainList _ vl vvs from f.keeps H.old _ hvl).isList,by rw[hvsz]; exact Nat.le_trans h3 (by decide),by simp only[List.length_map,hvsz]; exact List.length_map ..,fun cenv j x d s X Y Z Fc Cc hx hd H hM=>?_,fun s cv Dc H hcd=>aa6 ⟨H.bs,?_⟩⟩
 ·have hj:j<vars.length:=hvsz▸(Array.getElem?_eq_some_iff.mp hx).1
  obtain⟨x',hx',hxd⟩:=hvd.get (i:=j) (y:=pvD vars[j]) (by rw[List.getElem?_map,List.getElem?_eq_getElem hj]; rfl)
  cases hx.symm.trans ((Array.getElem?_toList ..).symm.trans hx')
  obtain⟨T,nv,ct,mt,dv,rfl,hT,_,_⟩:=agA hxd
  have ed:d=.int vars[j].count:=by
   unfold pcs at hd
   rw[List.getElem?_map,List.getElem?_map,List.getElem?_eq_getElem hj] at hd
   exact (Option.some.inj hd).symm
  subst ed
  exists aeh 1 Fc H rfl fun s t H=>?_
  have hTt:s.heap.IsTuple T _:=f.keeps (aa0.old (H.cut 1)) _ hT
  exact adp (k:=1) hTt rfl (by decide) ⟨[],aa0.fzNew [_,_,_] H,.int _ _⟩
 ·have hpc:∀ c∈pcs vars,1≤c∧c≤3:=fun c m=>by
   obtain⟨p,hp,rfl⟩:=List.mem_map.mp m
   exact hc p hp
  have hlc:(pcs vars).length≤3:=by unfold pcs; rwa [List.length_map]
  have hcd2:RD Dc cv (aia (pcs vars)):=by unfold aia abv; rw[List.map_map]; exact hcd
  refine apU (pcs vars) (D:=Dc) (r.mono (Nat.add_le_add_right hlc 2) (Nat.le_trans (Nat.add_le_add_right (Nat.mul_le_mul_left 3 hlc) 6) (by decide))) H.bs (aas (H.at [_,_])) hcd2 hlc hpc ha fun s v' D' mk rd'=>?_
  obtain⟨wa,wvs,rfl,hwa,hwd⟩:=rd'.lst
  replace H:aa0 s (_::_::fzR D'::fzR Dc::aa2 lo #[]::fzR D::L):=H.made mk
  replace H:=aa0.cut 1 (aa0.fzJoin [_,_,_,_] (H.pick [3,0,1,4,2,5] 6)) ⟨abp _,trivial⟩
  have k1:∀ f∈D',f∈D'++D:=fun f m=>List.mem_append_left _ m
  have k2:∀ f∈D,f∈D'++D:=fun f m=>List.mem_append_right _ m
  exists aaM (adQ (H.at [_,_,_]) (k1 _ hwa)) H fun s it H=>?_
  refine aoa r.handled F (k2 _ hrl) (hrd.mono k2) (k1 _ hwa) (hwd.mono k1) hw hz H fun s v5 v6 D2 vs k0 hds H=>?_
  refine aa0.lt H ?_; intro T' H
  exists aa7 ?_,ac8 ?_,dL 4 F H rfl ?_,sL 2 F H rfl fun s H=>?_
  exact aaL (h s lo _ _ _ _ _ vs (.head _) (hds.mono fun f m=>.tail _ m) (aa0.fzAdd [_,_] ⟨false,lo,vs⟩ (H.pick [0,1,3,2] 4)))
inductive aqu (va:Value) (vl aa it:Addr) (w:World) (s0:Shared) (env:Env) (vars:List aaJ) (ams:List Nat) (n:Nat) (s':Shared):Prop
 | mk (i rvv v3 v4 v5 v6 D):n=ams.length - i→i≤ams.length→RD D rvv (aql (aav (pcs vars) (ams.take i)))→aa0 s' (amN env (some va) (some (.ref vl)) (some rvv) v3 v4 v5 v6::aa5 w aaD aaD s0::abx it aa i::fzR D::[])→aqu va vl aa it w s0 env vars ams n s'
theorem adX {cs ams:List Nat}{i a:Nat}(h:ams[i]? = some a):aav cs (ams.take (i+1))=adc (aav cs (ams.take i)) (adk a cs):=by
 unfold aav
 simp only[List.take_add_one,h,List.foldl_append]; rfl
end
section
variable {w:World}
theorem aq6 {A:Around}{s:Shared}{D:List Fz}{va vv:Value}{ams:List Nat}{vars:List aaJ}{Q:Value→Shared→Prop}(r:aah A 6 20) (B:Bs w s.heap) (f:FIn D s.heap) (ra:RD D va (aia ams)) (rv:RD D vv (.list (vars.map pvD)))
  (h3:vars.length≤3) (hc:∀ p∈vars,1≤p.count∧p.count≤3) (ha:∀ a∈ams,a≤4) (hal:ams.length≤10) (hb:∀ i,(aav (pcs vars) (ams.take i)).length≤900)
  (h:∀ s' v D',acr (fzR D') s s'→RD D' v (aql (aav (pcs vars) ams))→Q v s'):WP w A (call (.ref 323) [va,vv]) Q s:=by
 obtain⟨aa,avs,rfl,haa,had⟩:=ra.lst
 obtain⟨vl,vvs,rfl,hvl,hvd⟩:=rv.lst
 have hasz:avs.size=ams.length:=by have:=had.size; rwa [List.length_map,List.length_map] at this
 exists adi (d:=5) (u:=17) (vs:=[some _,some _,none,none,none,none,none]) asN r B (aa0.start B) rfl (BindsTo.of_eq (by kernel_rfl)) (lb rfl) rfl fun A' env s₁ r' F H=>?_
 have hall:∀ {s₂:Shared} {R₁:Res} {L:List Res},aa0 s₂ (R₁::aa5 w aaD aaD s::L)→s₂.heap.IsList aa avs:=fun H=>(show Heap.PlainList _ aa avs from f.keeps H.old _ haa).isList
 exists aa7 ?_,ac8 ?_,ab5 ?_,aa3 ?_
 refine ab5 ?_
 exists aa6 ⟨_,_,_,H,aam,fun s₂ b H=>aa6 ⟨_,_,_,H,aam,fun s₂ b2 H=>sL 2 F H rfl fun s₂ H=>?_⟩⟩
 replace H:=aa0.fzAdd (D:=_) [_,_] ⟨false,b2,#[.ref b]⟩ (aa0.fzAdd (D:=[]) [_,_] ⟨false,b,#[]⟩ (aa0.fzNew [_,_] (H.pick [0,1,3,2] 4)))
 exists aa7 ?_,aem ?_,dL 0 F H rfl ?_,aaM (hall H) H fun s₂ it H=>?_
 refine abB (I:=aqu (.ref aa) vl aa it w s env vars ams) (fun n s' hI=>?_) _ ⟨0,_,none,none,none,none,_,rfl,Nat.zero_le _,.list (.head _) (.cons (.list (.tail _ (.head _)) .nil) .nil),H⟩
 clear H
 obtain⟨i,rvv,v3,v4,v5,v6,Dr,en,hi,hrd,H⟩:=hI
 cases hr:ams[i]? with
 | none=>
  have hlen:=List.getElem?_eq_none_iff.mp hr
  exists abF [_,_] r'.handled H (hall H) (o2 hasz hlen) fun s3 H=>?_
  refine aa7 ?_
  exists agD ?_,dL 2 F H rfl ?_
  simp only[List.take_of_length_le hlen] at hrd
  exact h _ _ _ (aa0.out (H.pick [0,1,3,2] 4)) hrd
 | some a=>
  obtain⟨x,hx,hxd⟩:=had.get (i:=i) (y:=.int a) (by simp only[List.getElem?_map,List.getElem?_map,hr]; rfl)
  obtain⟨ta,rfl⟩:=hxd.inti
  have hbn:=hb (i+1)
  rw[adX hr] at hbn
  have hwid:=ade (pcs vars) (ams.take i) [[]] 0 (fun r m=>by rw[List.mem_singleton.mp m]; rfl)
  obtain⟨rl,rvs,rfl,hrl,hrds⟩:=hrd.lst
  exists aaN [_,_] H (hall H) (by rwa [Array.getElem?_toList] at hx) fun s3 H=>?_,0,goS 3 F H rfl fun s3 H=>?_
  refine aqt (L:=[_]) r' F f hvl hvd h3 hc (ha a (List.mem_of_getElem? hr)) hrl hrds (fun row m=>(hwid row m).symm▸?_) hbn (H.pick [0,1,3,2] 4) fun s lo v3 v4 v5 v6 D' vs hlo hds H=>?_
  ·rw[Nat.zero_add,List.length_take]
   exact Nat.le_trans (Nat.min_le_right ..) hal
  ·rw[← adX hr] at hds
   exact⟨_,o1 en ((List.getElem?_eq_some_iff.mp hr).1),i+1,_,v3,v4,v5,v6,D',rfl,((List.getElem?_eq_some_iff.mp hr).1),.list hlo hds,H.pick [0,1,3,2] 4⟩
end
noncomputable def aeo:List Str:=["amounts", "variables", "due", "told", "good", "name", "count", "least", "default", "given", "size"]
noncomputable def afz:List Str:=["_law_rows", "range", "len", "sum"]
theorem asZ:FnC ass 328 aeo ["row", "j"] afz where
 obj P:=⟨kAt P 84,mK 84 (by kernel_rfl),by kernel_rfl⟩
 code P:=⟨327,kAt P 83,aac (kAt P 83),abO (aac (kAt P 83))[1]?,by kernel_rfl,mK 83 (by kernel_rfl),by kernel_rfl,by kernel_rfl⟩
 chk:=by kernel_rfl
 cel n:=by kernel_rfl
noncomputable def abc:List Str:=["script", "first", "number", "variables", "j", "default", "things", "k", "values", "before", "asked", "named", "told", "found", "row", "name", "given"]
noncomputable def abf:List Str:=["min", "sum", "range", "len", "Multiset", "sorted", "commutative_sequence_variable_partition_iter", "isinstance", "str", "_law_due"]
theorem atm:FnC asw 333 abc ["amounts"] abf where
 obj P:=⟨kAt P 86,mK 86 (by kernel_rfl),by kernel_rfl⟩
 code P:=⟨332,kAt P 85,aac (kAt P 85),abO (aac (kAt P 85))[1]?,by kernel_rfl,mK 85 (by kernel_rfl),by kernel_rfl,by kernel_rfl⟩
 chk:=by kernel_rfl
 cel n:=by kernel_rfl
section
variable {w:World}{A:Around}{s s0:Shared}{env:Env}{L:List Res}{ns gs:List Str}{R R₂:Res}
theorem ari {l:Addr}{vs:List Value}{ns:List Int}{Q:Value→Shared→Prop}(hh:A.handled=none) (H:aa0 s L) (hl:s.heap.IsList l vs.toArray) (hi:IntsAre vs ns) (h:∀ s' t,aa0 s' L→Q (.int ns.sum t) s'):WP w A (call (.builtin "sum") [.ref l]) Q s:=by
 obtain⟨xs,e⟩:=hi.allInts.items
 rw[e] at hl
 refine .of (sum_intListG hh hl fun h' tk t' hk=>?_)
 have e2:preSum (numAt xs) xs.size=ns.sum:=by
  rw[preSum_eq,List.take_of_length_le (by simp),← nums_intItems,← e]
  show (numsOf vs).sum=_
  rw[hi.numsOf]
 rw[e2]
 exact h _ _ (H.keep (aaO hk tk))
theorem aqM {a:Int}{t:Tok}{Q:Value→Shared→Prop}(H:aa0 s L) (h:∀ s' u,aa0 s' L→Q (.int (-a) u) s'):WP w A (unaryOp .USub (.int a t)) Q s:=
 .of (PyProof.Rows.neg_int (h _ _ (H.keep (aab _))))
inductive akW (N:Nat) (p:Nat→Bool) (ds:Nat→PyData) (cenv:Env) (nm:Str) (R R₂:Res) (acc it:Addr) (L:List Res) (n:Nat) (s':Shared):Prop
 | mk (i:Nat) (vr:Option Value) (D:List Fz) (vs:Array Value):n=N - i→i≤N→vs.size≤i→RDs D vs.toList (((List.range i).filter p).map ds)→aa0 s' (aa1 cenv.locals (aal [".0",nm] [none,vr])::R::R₂::aa2 acc vs::ahS it (i:Nat) ((N:Int) - (i:Nat)) 1::fzR D::L)→akW N p ds cenv nm R R₂ acc it L n s'
theorem aq1 {elt iter:Expr}{ifs:List Expr}{nm:Str}{np:Pos}{scope:Scope}{pos:Pos}{gsC:List Str}{it acc:Addr}{cenv:Env}{N:Nat}{P:Shared→Prop}(hh:A.handled=none) (Fc:aa8 cenv [".0",nm] gsC) (hN:N≤999)
  (H:aa0 s (aa1 cenv.locals (aal [".0",nm] [none,none])::R::R₂::aa2 acc #[]::ahS it 0 N 1::L)) (p:Nat→Bool) (ds:Nat→PyData)
  (hif:∀ (i:Nat) (t:Tok) (s:Shared) (X Y Z:Res),i<N→abq [X,Y,Z]→aa0 s (aa1 cenv.locals (aal [".0",nm] [none,some (.int i t)])::R::R₂::X::Y::Z::L)→aq8 w A cenv ifs (fun ok s'=>ok=p i∧aa0 s' (aa1 cenv.locals (aal [".0",nm] [none,some (.int i t)])::R::R₂::X::Y::Z::L)) s)
  (helt:∀ (i:Nat) (t:Tok) (s:Shared) (X Y Z:Res),i<N→p i=true→abq [X,Y,Z]→aa0 s (aa1 cenv.locals (aal [".0",nm] [none,some (.int i t)])::R::R₂::X::Y::Z::L)→
   WP w A (eval elt cenv) (fun y s'=>∃ D2,aa0 s' (aa1 cenv.locals (aal [".0",nm] [none,some (.int i t)])::R::R₂::fzR D2::X::Y::Z::L)∧RD D2 y (ds i)) s)
  (hQ:∀ s' vr D vs,RDs D vs.toList (((List.range N).filter p).map ds)→aa0 s' (aa1 cenv.locals (aal [".0",nm] [none,vr])::R::R₂::aa2 acc vs::emp::fzR D::L)→P s') :
  CP w A (.compStart (LC elt (.Name nm np) iter ifs scope pos) 0 (.ref it) (.ref acc) cenv) (fun J s'=>P s') s:=by
 have lp:∀ s,aa0 s (aa1 cenv.locals (aal [".0",nm] [none,none])::R::R₂::aa2 acc #[]::ahS it 0 N 1::L)→CP w A (.compLoop (LC elt (.Name nm np) iter ifs scope pos) 0 (.ref it) (.ref acc) cenv) (fun J s'=>P s') s:=by
  intro s H
  refine CP.mono (abb (akW N p ds cenv nm R R₂ acc it L) P (fun n s' hI=>?_) _ ⟨0,none,[],#[],rfl,Nat.zero_le _,Nat.le_refl _,.nil,?_⟩) (fun f s4' ⟨_,x⟩=>x)
  ·obtain⟨i,vr,D,vs,e,hi,hz,hd,H⟩:=hI
   by_cases hlt:i<N
   ·exists agx [_,_,_,_] H (by exact q45 ‹_›) fun s₂ t H=>?_,goS 1 Fc H rfl fun s₂ H=>?_
    have e2:((i:Nat):Int)+1=((i+1:Nat):Int):=by push_cast; rfl
    have e3:(N:Int) - ((i:Nat):Int) - 1=(N:Int) - ((i+1:Nat):Int):=by push_cast; exact q15
    simp only[e2,e3] at H
    have hok:=hif i t s₂ _ _ _ hlt ⟨fun J z=>z,fun J z=>z,abp _,trivial⟩ H
    have step:∀ ok s3,(ok=p i∧aa0 s3 (aa1 cenv.locals (aal [".0",nm] [none,some (.int (i:Nat) t)])::R::R₂::aa2 acc vs::ahS it ((i+1:Nat):Int) ((N:Int) - ((i+1:Nat):Int)) 1::fzR D::L))→
      (if ok=true then WP w A (eval elt cenv) (fun y s5=>WP w A (call (.builtin "list.append") [.ref acc,y]) (fun J s6=>Nxt (akW N p ds cenv nm R R₂ acc it L) n s6) s5) s3 else Nxt (akW N p ds cenv nm R R₂ acc it L) n s3):=by
     rintro ok s3 ⟨rfl,H⟩
     cases hp:p i with
     | true=>
      refine ifP (rfl) ?_
      refine (helt i t s3 _ _ _ hlt hp ⟨fun J z=>z,fun J z=>z,abp _,trivial⟩ H).mono fun y s4' ⟨D2,H,hy⟩=>?_
      exists abE [_,_,_,_] H (by lia) fun s5 H=>?_
      refine⟨N - (i+1),by exact q1 ‹_› ‹_›,i+1,_,_,_,rfl,hlt,by rw[Array.size_push]; exact q17 ‹_›,?_,(aa0.fzJoin [_,_,_,_,_] (H.pick [0,1,2,4,5,3,6] 7))⟩
      simp only[List.range_succ,List.filter_append,List.map_append,Array.toList_push]
      have e4:([i].filter p).map ds=[ds i]:=by simp[hp]
      simp only[e4]
      exact RDs.append (hd.mono fun f m=>List.mem_append_right _ m) (.cons (hy.mono fun f m=>List.mem_append_left _ m) .nil)
     | false=>
      refine ifN ((by decide)) ?_
      refine⟨N - (i+1),by exact q1 ‹_› ‹_›,i+1,_,_,_,rfl,hlt,by exact q58 ‹_›,?_,H⟩
      simp only[List.range_succ,List.filter_append]
      have e4:[i].filter p=[]:=by simp[hp]
      simp only[e4,List.append_nil]
      exact hd
    match ifs,hok with
    | [],hok=>exact step _ _ hok
    | [c],hok=>exact WP.mono hok step
   ·exists ajk [_,_,_,_] hh H (by exact q61 ‹_› ‹_›) fun s₂ H=>?_
    have ei:i=N:=by exact q24 ‹_› ‹_›
    rw[ei] at hd
    exact hQ _ _ _ _ hd H
  ·have H2:=H.fzNew [_,_,_,_,_]
   exact (show (N:Int) - ((0:Nat):Int)=N by simp +arith)▸(H2)
 exact ad4 (lp s H) (.of (wpAny_pyIter_rangeiter (H.at [_,_,_,_]) (lp s H)))
end
noncomputable def pv0:aaJ:=⟨none,1,0,none⟩
noncomputable def wAt (row:List (List Int)) (k j:Nat):Int:=(row.getD k []).getD j 0
noncomputable def aaH (row:List (List Int)) (j:Nat):Int:=(row.map fun way=>way.getD j 0).sum
noncomputable def anL (row:List (List Int)) (j:Nat):List (Int × Int):=((List.range row.length).filter fun k:Nat=>decide (0<wAt row k j)).map fun k:Nat=>((k:Int),wAt row k j)
noncomputable def aga (row:List (List Int)) (j:Nat):PyData:=.list ((anL row j).map pD)
noncomputable def aor (row:List (List Int)) (j:Nat) (p:aaJ):PyData:=match p.dflt with
 | some d=>if aaH row j=0 then .list [.tuple [.int (-1),.str d]] else aga row j
 | none=>aga row j
noncomputable def acu (row:List (List Int)) (j:Nat) (p:aaJ):Bool:=(p.dflt.isSome&&decide (aaH row j=0))||!(decide (aaH row j<p.least))
noncomputable def act (row:List (List Int)) (j:Nat) (p:aaJ):List PyData:=match p.name with
 | some n=>[.tuple [.str n,aor row j p]]
 | none=>[]
noncomputable def adW (row:List (List Int)) (vars:List aaJ):List PyData:=(List.range vars.length).flatMap fun j=>act row j (vars.getD j pv0)
noncomputable def acz (row:List (List Int)) (vars:List aaJ):Bool:=(List.range vars.length).all fun j=>acu row j (vars.getD j pv0)
noncomputable def abX (ams:List Nat) (vars:List aaJ):List PyData:=((aav (pcs vars) ams).filter fun row=>acz row vars).map fun row=>.list (adW row vars)
theorem rowAt {D:List Fz}{rvs:Array Value}{row:List (List Int)}{k j:Nat}(h:RDs D rvs.toList (row.map abv)) (hk:k<row.length) (hw:∀ way∈row,j<way.length) :
  ∃ wa wvs t,rvs[k]? = some (.ref wa)∧⟨false,wa,wvs⟩∈D∧wvs[j]? = some (.int (wAt row k j) t):=by
 obtain⟨x,hx,hxd⟩:=h.get (i:=k) (y:=abv row[k]) (by rw[List.getElem?_map,List.getElem?_eq_getElem hk]; rfl)
 obtain⟨wa,wvs,rfl,hm,hd⟩:=hxd.lst
 have hj:=hw row[k] (List.getElem_mem hk)
 obtain⟨y,hy,hyd⟩:=hd.get (i:=j) (y:=.int (row[k])[j]) (by rw[List.getElem?_map,List.getElem?_eq_getElem hj]; rfl)
 obtain⟨t,rfl⟩:=hyd.inti
 have e:wAt row k j=(row[k])[j]:=by
  unfold wAt
  rw[List.getD_eq_getElem?_getD,List.getD_eq_getElem?_getD,List.getElem?_eq_getElem hk]
  show (row[k][j]?).getD 0=_
  rw[List.getElem?_eq_getElem hj]; rfl
 exact⟨wa,wvs,t,by simpa using hx,hm,by rw[e]; simpa using hy⟩
theorem RDs.toInts {D:List Fz}{ns:List Int}:∀ {vs:List Value},RDs D vs (ns.map .int)→IntsAre vs ns:=by
 induction ns with
 | nil=>intro vs h; rw[RDs.unnil h]; exact .nil
 | cons i ns ih=>
  intro vs h
  obtain⟨x,u,rfl,a,b⟩:=RDs.uncons (ds:=ns.map .int) h
  obtain⟨t,rfl⟩:=a.inti
  exact .cons i t (ih b)
theorem aap.snd {env:Env}{k:NameKind}{x y:Str}{a b:Addr}(C:aap env k [x,y] [a,b]):aap env k [y] [b] where
 kind i z h:=match i,h with | 0,h=>C.kind 1 z h
 at' i z c h h2:=match i,h,h2 with | 0,h,h2=>C.at' 1 z c h h2
 dbg i z h:=match i,h with | 0,h=>C.dbg 1 z h
noncomputable def agC:List Stmt:=adU (at' (adU (at' (aaa (D 16)) 1)) 2)
section
variable {w:World}{A:Around}{s s0:Shared}{env:Env}{L:List Res}{fp:Addr→Prop}{gp:Nat→Prop}{ra:Addr}{rvs:Array Value}{row:List (List Int)}{j:Nat}{tj:Tok}{D:List Fz}{v0 v1 v2 v3 v4 v5 v6 v7 v8 v9 v10:Option Value}
noncomputable abbrev afB (env:Env) (v0 v1 v2 v3 v4 v5 v6 v7 v8 v9 v10:Option Value):Res:=aa1 env.locals (aal aeo [v0,v1,v2,v3,v4,v5,v6,v7,v8,v9,v10])
theorem apO {Q:Flow→Shared→Prop}(hh:A.handled=none) (F:aa8 env aeo afz) (C:aap env .cell ["row", "j"] (abT env.locals 2)) (hra:⟨false,ra,rvs⟩∈D) (hrd:RDs D rvs.toList (row.map abv)) (hlen:row.length≤10) (hw:∀ way∈row,j<way.length) (hj:j≤10)
  (H:aa0 s (afB env v0 v1 v2 v3 v4 v5 v6 v7 v8 v9 v10::aa5 w fp gp s0::aai (env.locals+1:Nat) (some (.ref ra))::aai (env.locals+2:Nat) (some (.int j tj))::fzR D::L))
  (h:∀ s' gv D',aa0 s' (afB env v0 v1 v2 v3 v4 v5 v6 v7 v8 (some gv) v10::aa5 w fp gp s0::aai (env.locals+1:Nat) (some (.ref ra))::aai (env.locals+2:Nat) (some (.int j tj))::fzR D'::L)→(∀ f∈D,f∈D')→RD D' gv (aga row j)→Q .next s') :
  WP w A (exec (at' agC 1) env) Q s:=by
 have hrl:rvs.size=row.length:=by have:=hrd.length; simpa using this
 have hfz:∀ {s:Shared} {x:Addr} {xs:Array Value},(fzR D).P s→⟨false,x,xs⟩∈D→s.heap.IsList x xs:=fun {s} {x} {xs} h m=>(show s.heap.PlainList x xs from aas h _ m).isList
 exists 0,ahj 9 F C [".0", "k"] [] ?_,abo 1 9 F H ?_,aa3 ?_,aaj 2 2 F H ?_,aa3 ?_,dLC [_,_] 0 F C H ?_,aa6 ?_,agH H (hfz (H.at [_,_,_,_]) hra) (by lia) fun s t H=>?_,aa6 ?_,aeB H fun s r t u v H=>?_,aeF [] H (by lia) fun s it H=>?_
 refine⟨_,_,_,H,fun cenv acc s3 Fc Cc H=>?_⟩
 rw[hrl] at H
 refine CP.mono (aq1 (L:=_) (P:=fun s'=>∃ vr D' vs,RDs D' vs.toList ((anL row j).map pD)∧aa0 s' (aa1 cenv.locals (aal [".0", "k"] [none,vr])::afB env v0 v1 v2 v3 v4 v5 v6 v7 v8 v9 v10::aa5 w fp gp s0::aa2 acc vs::emp::fzR D'::akB r 0 row.length 1 t u v::aai (env.locals+1:Nat) (some (.ref ra))::aai (env.locals+2:Nat) (some (.int j tj))::fzR D::L)) hh Fc (by lia) H (fun k:Nat=>decide (0<wAt row k j)) (fun k:Nat=>pD ((k:Int),wAt row k j)) (fun i t s X Y Z hi hM H=>?_) (fun i t s X Y Z hi hp hM H=>?_) (fun s' vr D' vs hd H=>⟨vr,D',vs,by unfold anL; rw[List.map_map]; exact hd,H⟩)) ?_
 ·obtain⟨wa,wvs,t2,e1,e2,e3⟩:=rowAt hrd hi hw
  exists abS ?_,aaw ?_,aaw ?_,dLC [_,_,_,_,_,_,_] 0 Fc Cc H ?_,dL 1 Fc H rfl ?_,abu (k:=i) (hfz (H.at [_,_,_,_,_,_,_,_,_]) hra) e1 (by lia) ?_,dLC [_,_,_,_,_,_,_,_] 1 Fc Cc H ?_,abu (k:=j) (hfz (H.at [_,_,_,_,_,_,_,_,_]) e2) e3 (by exact q77 ‹_›) ?_,aaW H fun s t3 H=>?_,dGt ?_,tB ⟨rfl,H⟩
 ·obtain⟨wa,wvs,t2,e1,e2,e3⟩:=rowAt hrd hi hw
  exists ael ?_,spL 1 Fc H rfl ?_,aa3 ?_,aaw ?_,aaw ?_,dLC [_,_,_,_,_,_,_] 0 Fc Cc H ?_,dL 1 Fc H rfl ?_,abu (k:=i) (hfz (H.at [_,_,_,_,_,_,_,_,_]) hra) e1 (by lia) ?_,dLC [_,_,_,_,_,_,_,_] 1 Fc Cc H ?_,abu (k:=j) (hfz (H.at [_,_,_,_,_,_,_,_,_]) e2) e3 (by exact q77 ‹_›) ?_,aa6 ⟨_,_,_,H,aam,fun s a H=>?_⟩
  exact⟨_,(aa0.fzAdd (D:=[]) [_,_,_] ⟨true,a,#[.int (i:Nat) t,.int (wAt row i j) t2]⟩ (aa0.fzNew [_,_,_] (H.pick [0,1,3,2] 4))),.tuple (.head _) (.cons (.int _ _) (.cons (.int _ _) .nil))⟩
 ·intro f s4' ⟨vr,D',vs,hd,H⟩
  refine⟨_,_,H,sL 9 F (H.front [_]) rfl fun s5 H5=>⟨_,_,H5.front [_],fun s7 H=>?_⟩⟩
  have H4:=aa0.cut 2 ((aa0.fzJoin [_,_,_,_] ((aa0.fzAdd [_,_] ⟨false,acc,vs⟩ (H.pick [0,1,4,2,3,5,6,7,8] 9)).pick [0,1,5,6,2,7,3,4] 8)).pick [5,6,0,1,2,3,4] 7)
  exact h _ _ _ H4 (fun f m=>List.mem_append_right _ m) (.list (List.mem_append_left _ (.head _)) (hd.mono fun f m=>List.mem_append_left _ (.tail _ m)))
theorem arz {Q:Flow→Shared→Prop}(hh:A.handled=none) (F:aa8 env aeo afz) (C:aap env .cell ["row", "j"] (abT env.locals 2)) (hra:⟨false,ra,rvs⟩∈D) (hrd:RDs D rvs.toList (row.map abv)) (hlen:row.length≤10) (hw:∀ way∈row,j<way.length) (hj:j≤10)
  (H:aa0 s (afB env v0 v1 v2 v3 v4 v5 v6 v7 v8 v9 v10::aa5 w fp gp s0::aai (env.locals+1:Nat) (some (.ref ra))::aai (env.locals+2:Nat) (some (.int j tj))::fzR D::L))
  (h:∀ s' t,aa0 s' (afB env v0 v1 v2 v3 v4 v5 v6 v7 v8 v9 (some (.int (aaH row j) t))::aa5 w fp gp s0::aai (env.locals+1:Nat) (some (.ref ra))::aai (env.locals+2:Nat) (some (.int j tj))::fzR D::L)→Q .next s') :
  WP w A (exec (at' agC 2) env) Q s:=by
 have hrl:rvs.size=row.length:=by have:=hrd.length; simpa using this
 have hfz:∀ {s:Shared} {x:Addr} {xs:Array Value},(fzR D).P s→⟨false,x,xs⟩∈D→s.heap.IsList x xs:=fun {s} {x} {xs} h m=>(show s.heap.PlainList x xs from aas h _ m).isList
 exists 0,ac8 ?_,aaj 3 10 F H ?_,aa3 ?_,amv hh F C.snd [] ?_,dLC [_,_] 0 F C H ⟨ra,rvs,_,_,_,(row.map fun way=>way.getD j 0).map PyData.int,rfl,H,fun s H=>hfz (H.at [_,_,_,_]) hra,by lia,by simp[hrl],fun cenv i x d s X Y Z Fc Cc hx hd H hM=>?_,fun s v Dc H hcd=>aa6 ?_⟩
 ·have hi:i<row.length:=by have:=(Array.getElem?_eq_some_iff.mp hx).1; exact q4 ‹_› ‹_›
  obtain⟨wa,wvs,t2,e1,e2,e3⟩:=rowAt hrd hi hw
  rw[e1] at hx
  cases hx
  have ed:d=.int (wAt row i j):=by
   simp only[List.getElem?_map,List.getElem?_map,List.getElem?_eq_getElem hi] at hd
   unfold wAt
   rw[List.getD_eq_getElem?_getD (l:=row),List.getElem?_eq_getElem hi]
   exact (Option.some.inj hd).symm
  subst ed
  exists aaw ?_
  refine dL 1 Fc H rfl ?_
  exists dLC [_,_,_,_,_,_,_] 0 Fc Cc H ?_,abu (k:=j) (hfz (H.at [_,_,_,_,_,_,_,_]) e2) e3 (by exact q77 ‹_›) ⟨[],aa0.fzNew [_,_,_] H,.int _ _⟩
 ·obtain⟨acc,avs,rfl,hacc,hads⟩:=hcd.lst
  exists 0,ari hh H (by simpa using (show Heap.PlainList _ acc avs from aas (H.at [_,_]) _ hacc).isList) hads.toInts fun s t H=>?_,sL 10 F H rfl fun s H=>?_
  exact h _ _ (aa0.cut 1 (H.pick [2,0,1,3,4,5] 6) ⟨abp _,trivial⟩)
end
theorem apS {D:List Fz}{v:Value}{o:Option Str}(h:RD D v (aoQ o)):∃ t,v=acb o t:=by
 cases o with
 | none=>cases h; exact⟨default,rfl⟩
 | some x=>cases h with | str _ t=>exact⟨t,rfl⟩
theorem atj {D:List Fz}{o:Option Str}{t:Tok}:RD D (acb o t) (aoQ o):=by
 cases o with
 | none=>exact .none
 | some x=>exact .str _ _
noncomputable def nmD (nm:Option Str) (gd:PyData):List PyData:=match nm with
 | some n=>[.tuple [.str n,gd]]
 | none=>[]
section
variable {w:World}{A:Around}{s s0:Shared}{env:Env}{L:List Res}{fp:Addr→Prop}{gp:Nat→Prop}{ra:Addr}{rvs:Array Value}{row:List (List Int)}{j:Nat}{tj:Tok}{D:List Fz}{v0 v1 v2 v3 v4 v5 v6 v7 v8 v9 v10:Option Value}{tl:Addr}{tvs:Array Value}{C1 C2:Res}
theorem anW {nm:Option Str}{nt:Tok}{gv:Value}{gd:PyData}{ds:List PyData}{Q:Flow→Shared→Prop}(F:aa8 env aeo afz)
  (H:aa0 s (afB env v0 v1 v2 (some (.ref tl)) v4 (some (acb nm nt)) v6 v7 v8 (some gv) v10::aa5 w fp gp s0::C1::C2::fzR D::aa2 tl tvs::L)) (hg:RD D gv gd) (hds:RDs D tvs.toList ds) (hsz:tvs.size≤900)
  (h:∀ s' D' tvs',aa0 s' (afB env v0 v1 v2 (some (.ref tl)) v4 (some (acb nm nt)) v6 v7 v8 (some gv) v10::aa5 w fp gp s0::C1::C2::fzR D'::aa2 tl tvs'::L)→(∀ f∈D,f∈D')→RDs D' tvs'.toList (ds++nmD nm gd)→Q .next s') :
  WP w A (exec (at' agC 4) env) Q s:=by
 exists dIf ?_
 refine abS ?_
 exists dL 5 F H rfl ?_,ad5 ?_,aeM ?_,tB ?_
 cases nm with
 | none=>
  refine ifN ((by simp)) ?_
  exists aaL ?_
  exact h _ _ _ H (fun J m=>m) (by simpa [nmD] using hds)
 | some n=>
  refine ifP ((by simp)) ?_
  have hmm:=H.at (R:=aa2 tl tvs) [_,_,_,_,_]
  exists 0,aa7 ?_,afi F.inter ?_,alP ?_,dL 3 F H rfl ⟨tl,_,rfl,hmm,?_⟩
  exists ael ?_
  refine spL 5 F H rfl ?_
  exists spL 9 F H rfl ?_,aa6 ⟨_,_,_,H,aam,fun s a H=>?_⟩
  replace H:=H.pick [0,1,3,4,5,6,2] 7
  refine⟨[_,_,_,_,_],_,_,H,by exact q14 ‹_›,fun s H=>aer<|aaL ?_⟩
  refine h _ _ _ (aa0.fzAdd [_,_,_,_] ⟨true,a,#[acb (some n) nt,gv]⟩ (H.pick [0,1,2,3,4,6,5] 7)) (fun f m=>.tail _ m) ?_
  exact (Array.toList_push).symm▸((hds.mono fun f m=>.tail _ m).append (.cons (.tuple (.head _) (.cons (.str _ _) (.cons (hg.mono fun f m=>.tail _ m) .nil))) .nil))
theorem ara {p:aaJ}{nt dt ts ct mt:Tok}{gv:Value}{g:Bool}{ds:List PyData}{Q:Flow→Shared→Prop}(F:aa8 env aeo afz)
  (H:aa0 s (afB env v0 v1 v2 (some (.ref tl)) (some (.bool g)) (some (acb p.name nt)) (some (.int p.count ct)) (some (.int p.least mt)) (some (acb p.dflt dt)) (some gv) (some (.int (aaH row j) ts))::aa5 w fp gp s0::C1::C2::fzR D::aa2 tl tvs::L)) (hg:RD D gv (aga row j)) (hds:RDs D tvs.toList ds) (hsz:tvs.size≤900)
  (h:∀ s' D' tvs' v5 v6 v7 v8 v9 v10,aa0 s' (afB env v0 v1 v2 (some (.ref tl)) (some (.bool (g&&acu row j p))) v5 v6 v7 v8 v9 v10::aa5 w fp gp s0::C1::C2::fzR D'::aa2 tl tvs'::L)→(∀ f∈D,f∈D')→RDs D' tvs'.toList (ds++act row j p)→Q .next s') :
  WP w A (execs [at' agC 3,at' agC 4] env) Q s:=by
 obtain⟨pn,pc,pl,pd⟩:=p
 have te:∀ gd,aor row j ⟨pn,pc,pl,pd⟩=gd→act row j ⟨pn,pc,pl,pd⟩=nmD pn gd:=fun gd e=>by
  subst e; cases pn<;>rfl
 have two:∀ (s:Shared),(pd.isSome=false∨aaH row j≠0)→aa0 s (afB env v0 v1 v2 (some (.ref tl)) (some (.bool g)) (some (acb pn nt)) (some (.int pc ct)) (some (.int pl mt)) (some (acb pd dt)) (some gv) (some (.int (aaH row j) ts))::aa5 w fp gp s0::C1::C2::fzR D::aa2 tl tvs::L)→
   WP w A (execs (match at' agC 3 with | .If _ _ e _=>e | _=>[]) env) (fun f s'=>match f with | .next=>WP w A (execs [at' agC 4] env) Q s' | f=>Q f s') s:=by
  intro s hz H
  have e1:aor row j ⟨pn,pc,pl,pd⟩=aga row j:=by
   cases pd with
   | none=>rfl
   | some d=>
    show (if aaH row j=0 then _ else _)=_
    rw[if_neg (hz.resolve_left (by simp))]
  have e2:acu row j ⟨pn,pc,pl,pd⟩ = !(decide (aaH row j<pl)):=by
   unfold acu
   rcases hz with hz | hz
   ·show (pd.isSome&&_||_)=_
    rw[hz]; rfl
   ·show (_&&decide (aaH row j=0)||_)=_
    rw[decide_eq_false hz]; simp
  exists aa7 ?_,dIf ?_
  refine abS ?_
  exists dL 10 F H rfl ?_,dL 7 F H rfl ?_,dLt ?_,tB ?_
  by_cases hl:aaH row j<pl
  ·refine ifP ((by simpa using hl)) ?_
   exists aa7 ?_
   refine ac8 ?_
   exists akL ?_,sL 4 F H rfl fun s H=>?_,aaL ?_,aaL ?_
   refine aa7 ?_
   exists anW F H hg hds hsz fun s' D' tvs' H hk hd=>?_,aaL ?_
   have e3:(g&&acu row j ⟨pn,pc,pl,pd⟩)=false:=by rw[e2,decide_eq_true hl]; simp
   exact h _ _ _ _ _ _ _ _ _ ((e3)▸(H)) hk (by rw[te _ e1]; exact hd)
  ·refine ifN ((fun x=>hl (of_decide_eq_true x))) ?_
   exists aaL ?_,aaL ?_,aa7 ?_,anW F H hg hds hsz fun s' D' tvs' H hk hd=>?_,aaL ?_
   have e3:(g&&acu row j ⟨pn,pc,pl,pd⟩)=g:=by rw[e2,decide_eq_false hl]; simp
   exact h _ _ _ _ _ _ _ _ _ ((e3)▸(H)) hk (by rw[te _ e1]; exact hd)
 exists aa7 ?_,dIf ?_,ahQ ?_,amq ?_
 refine abS ?_
 exists dL 8 F H rfl ?_,ad5 ?_,aeM ?_,tB ?_
 cases pd with
 | none=>
  refine ifN ((by simp)) ?_
  refine ifN ((by simp)) ?_
  exact two s (.inl rfl) H
 | some d=>
  refine ifP ((by simp)) ?_
  exists 0,amq ?_,tLI 10 F H rfl fun s t H=>?_,0,tEq ?_
  by_cases hz:aaH row j=0
  ·refine ifP ((by simpa using hz)) ?_
   exists agG ?_
   refine ifP (rfl) ?_
   exists aa7 ?_,ac8 ?_,ab5 ?_,aa3 ?_,ael ?_,aa3 ?_
   refine dUn ?_
   exists aaW H fun s t H=>?_,aqM H fun s t H=>?_
   refine spL 8 F H rfl ?_
   exists aa6 ⟨_,_,_,H,aam,fun s ta H=>aa6 ⟨_,_,_,H,aam,fun s la H=>sL 9 F H rfl fun s H=>aaL ?_⟩⟩
   have e1:aor row j ⟨pn,pc,pl,some d⟩=.list [.tuple [.int (-1),.str d]]:=by
    show (if aaH row j=0 then _ else _)=_
    rw[if_pos hz]
   have e2:acu row j ⟨pn,pc,pl,some d⟩=true:=by
    show (_&&decide (aaH row j=0)||_)=_
    simp only[decide_eq_true hz]; rfl
   exists aa7 ?_,anW F (aa0.fzAdd [_,_,_,_] ⟨false,la,#[.ref ta]⟩ (aa0.fzAdd [_,_,_,_] ⟨true,ta,#[.int (-1) t,acb (some d) dt]⟩ (H.pick [0,1,4,5,6,3,2,7] 8))) (.list (.head _) (.cons (.tuple (.tail _ (.head _)) (.cons (.int _ _) (.cons (.str _ _) .nil))) .nil)) (hds.mono fun f m=>.tail _ (.tail _ m)) hsz fun s' D' tvs' H hk hd=>?_,aaL ?_
   have e3:(g&&acu row j ⟨pn,pc,pl,some d⟩)=g:=by rw[e2]; simp
   exact h _ _ _ _ _ _ _ _ _ ((e3)▸(H)) (fun f m=>hk f (.tail _ (.tail _ m))) (by rw[te _ e1]; exact hd)
  ·refine ifN ((by simpa using hz)) ?_
   refine ifN ((by simp)) ?_
   exact two _ (.inr hz) H
end
theorem afQ (cs:List Nat):∀ (ams:List Nat) (rs:List (List (List Int))),(∀ r∈rs,∀ x∈r,x.length=cs.length)→∀ r∈ams.foldl (ab6 cs) rs,∀ x∈r,x.length=cs.length
 | [],rs,h=>h
 | a::ams,rs,h=>afQ cs ams (ab6 cs rs a) fun r hr x hx=>by
  obtain⟨way,hway,hr⟩:=List.mem_flatMap.mp hr
  obtain⟨y,hy,rfl⟩:=List.mem_map.mp hr
  rcases List.mem_append.mp hx with hx | hx
  ·exact h y hy x hx
  ·rw[List.mem_singleton.mp hx]; exact acn cs a way hway
noncomputable def agM (row:List (List Int)) (vars:List aaJ) (j:Nat):List PyData:=(List.range j).flatMap fun j=>act row j (vars.getD j pv0)
noncomputable def akS (row:List (List Int)) (vars:List aaJ) (j:Nat):Bool:=(List.range j).all fun j=>acu row j (vars.getD j pv0)
theorem aiF {row:List (List Int)}{vars:List aaJ}{j:Nat}(h:j<vars.length):agM row vars (j+1)=agM row vars j++act row j vars[j]:=by
 unfold agM
 simp only[List.range_succ,List.flatMap_append,List.flatMap_cons,List.flatMap_nil,List.append_nil,List.getD_eq_getElem?_getD,List.getElem?_eq_getElem h]; rfl
theorem ai8 {row:List (List Int)}{vars:List aaJ}{j:Nat}(h:j<vars.length):akS row vars (j+1)=(akS row vars j&&acu row j vars[j]):=by
 unfold akS
 simp only[List.range_succ,List.all_append,List.all_cons,List.all_nil,Bool.and_true,List.getD_eq_getElem?_getD,List.getElem?_eq_getElem h]; rfl
theorem aj3 (row:List (List Int)) (vars:List aaJ) (j:Nat):(agM row vars j).length≤j:=by
 have h2:=afD (g:=fun j=>act row j (vars.getD j pv0)) (b:=1) (List.range j) fun j J=>by
  unfold act
  split<;>simp
 rwa [List.length_range,Nat.mul_one] at h2
noncomputable def aqc:List Stmt:=adU (at' (aaa (D 16)) 1)
noncomputable def ar8:Stmt:=at' aqc 2
section
variable {w:World}{A:Around}{s s0:Shared}{env:Env}{L:List Res}{ra tl vl:Addr}{rvs tvs vvs:Array Value}{row:List (List Int)}{vars:List aaJ}{j:Nat}{tj:Tok}{D D0:List Fz}{v0 v2 v3 v4 v5 v6 v7 v8 v9 v10 c2v:Option Value}{g:Bool}{Q:Flow→Shared→Prop}
theorem anP (hh:A.handled=none) (F:aa8 env aeo afz) (C:aap env .cell ["row", "j"] (abT env.locals 2)) (f:FIn D0 s0.heap) (hvl:⟨false,vl,vvs⟩∈D0) (hvd:RDs D0 vvs.toList (vars.map pvD)) (hra:⟨false,ra,rvs⟩∈D) (hrd:RDs D rvs.toList (row.map abv)) (hlen:row.length≤10) (hw:∀ way∈row,way.length=vars.length) (h3:vars.length≤3) (hj:j<vars.length)
  (hds:RDs D tvs.toList (agM row vars j))
  (H:aa0 s (afB env v0 (some (.ref vl)) v2 (some (.ref tl)) (some (.bool g)) v5 v6 v7 v8 v9 v10::aa5 w aaD aaD s0::aai (env.locals+1:Nat) (some (.ref ra))::aai (env.locals+2:Nat) (some (.int j tj))::fzR D::aa2 tl tvs::L))
  (h:∀ s' D' tvs' v5 v6 v7 v8 v9 v10,aa0 s' (afB env v0 (some (.ref vl)) v2 (some (.ref tl)) (some (.bool (g&&acu row j vars[j]))) v5 v6 v7 v8 v9 v10::aa5 w aaD aaD s0::aai (env.locals+1:Nat) (some (.ref ra))::aai (env.locals+2:Nat) (some (.int j tj))::fzR D'::aa2 tl tvs'::L)→(∀ f∈D,f∈D')→RDs D' tvs'.toList (agM row vars (j+1))→Q .next s') :
  WP w A (execs agC env) Q s:=by
 obtain⟨xv,hxv,hxvd⟩:=hvd.get (i:=j) (y:=pvD vars[j]) (by rw[List.getElem?_map,List.getElem?_eq_getElem hj]; rfl)
 obtain⟨T,nv,ct,mt,dv,rfl,hT,hnv,hdv⟩:=agA hxvd
 obtain⟨nt,rfl⟩:=apS hnv
 obtain⟨dt,rfl⟩:=apS hdv
 clear hxvd hnv hdv
 have hxv:vvs[j]? = some (.ref T):=by simpa using hxv
 exists 0,aa7 ?_,apx ?_,aaw ?_,dL 1 F H rfl ?_,dLC [_,_,_] 1 F C H ?_,abu (k:=j) ((show Heap.PlainList _ vl vvs from f.keeps H.old _ hvl).isList) hxv (by lia) ?_,aoM hh (show Heap.IsTuple _ T _ from f.keeps H.old _ hT) H fun s H=>?_,0,aaV ?_,aS 5 F H rfl fun s H=>?_,aaV ?_,aS 6 F H rfl fun s H=>?_,0,aaV ?_,aS 7 F H rfl fun s H=>?_,aaV ?_,aS 8 F H rfl fun s H=>?_,aiL ?_
 have hwj:∀ way∈row,j<way.length:=fun way m=>by rw[hw way m]; exact hj
 exists aa7 ?_,apO hh F C hra hrd hlen hwj (by lia) H fun s gv D1 H hk1 hg=>?_
 refine aa7 ?_
 exists arz hh F C (hk1 _ hra) (hrd.mono hk1) hlen hwj (by lia) H fun s ts H=>?_
 have hz:tvs.size≤900:=by
  have h2:=aj3 row vars j
  simp only[← (hds.length),Array.length_toList] at h2
  lia
 exists ara (p:=vars[j]) F H hg (hds.mono hk1) hz fun s D2 tvs2 w5 w6 w7 w8 w9 w10 H hk2 hd2=>?_
 exact h _ _ _ _ _ _ _ _ _ H (fun f m=>hk2 f (hk1 f m)) (by rw[aiF hj]; exact hd2)
inductive aqq (vars:List aaJ) (D:List Fz) (row:List (List Int)) (env:Env) (v0:Option Value) (vl:Addr) (v2:Option Value) (tl:Addr) (w:World) (s0:Shared) (ra it2 rg:Addr) (t1 t2 t3:Tok) (L:List Res) (n:Nat) (s':Shared):Prop
 | mk (j:Nat) (c2v v5 v6 v7 v8 v9 v10:Option Value) (Dt:List Fz) (tvs:Array Value):n=vars.length - j→j≤vars.length→(∀ f∈D,f∈Dt)→RDs Dt tvs.toList (agM row vars j)→aa0 s' (afB env v0 (some (.ref vl)) v2 (some (.ref tl)) (some (.bool (akS row vars j))) v5 v6 v7 v8 v9 v10::aa5 w aaD aaD s0::aai (env.locals+1:Nat) (some (.ref ra))::aai (env.locals+2:Nat) c2v::fzR Dt::aa2 tl tvs::ahS it2 (j:Nat) ((vars.length:Int) - (j:Nat)) 1::akB rg 0 vars.length 1 t1 t2 t3::L)→aqq vars D row env v0 vl v2 tl w s0 ra it2 rg t1 t2 t3 L n s'
theorem apF (hh:A.handled=none) (F:aa8 env aeo afz) (C:aap env .cell ["row", "j"] (abT env.locals 2)) (f:FIn D0 s0.heap) (hvl:⟨false,vl,vvs⟩∈D0) (hvd:RDs D0 vvs.toList (vars.map pvD)) (hra:⟨false,ra,rvs⟩∈D) (hrd:RDs D rvs.toList (row.map abv)) (hlen:row.length≤10) (hw:∀ way∈row,way.length=vars.length) (h3:vars.length≤3)
  (H:aa0 s (afB env v0 (some (.ref vl)) v2 (some (.ref tl)) (some (.bool true)) v5 v6 v7 v8 v9 v10::aa5 w aaD aaD s0::aai (env.locals+1:Nat) (some (.ref ra))::aai (env.locals+2:Nat) c2v::fzR D::aa2 tl #[]::L))
  (h:∀ s' c2v D' tvs v5 v6 v7 v8 v9 v10,aa0 s' (afB env v0 (some (.ref vl)) v2 (some (.ref tl)) (some (.bool (acz row vars))) v5 v6 v7 v8 v9 v10::aa5 w aaD aaD s0::aai (env.locals+1:Nat) (some (.ref ra))::aai (env.locals+2:Nat) c2v::fzR D'::aa2 tl tvs::L)→(∀ f∈D,f∈D')→RDs D' tvs.toList (adW row vars)→Q .next s') :
  WP w A (exec ar8 env) Q s:=by
 have hvsz:vvs.size=vars.length:=by have:=hvd.length; simpa using this
 refine aem ?_
 refine abo 1 9 F H ?_
 refine aa3 ?_
 refine aaj 2 2 F H ?_
 refine aa3 ?_
 refine dL 1 F H rfl ?_
 refine aa6 ?_
 refine agH H ((show Heap.PlainList _ vl vvs from f.keeps H.old _ hvl).isList) (by exact q36 ‹_› ‹_›) fun s t H=>?_
 refine aa6 ?_
 rw[hvsz]
 exists aeB H fun s rg t1 t2 t3 H=>?_,aeF [] H (by lia) fun s it2 H=>?_
 replace H:=H.pick [0,1,4,5,6,7,2,3] 8
 dsimp only[ac7,ac4,aeA,abV,List.cons_append,List.nil_append,List.append] at H
 exists abB (I:=aqq vars D row env v0 vl v2 tl w s0 ra it2 rg t1 t2 t3 L) (fun n s' hI=>?_) _ ⟨0,c2v,v5,v6,v7,v8,v9,v10,D,#[],rfl,Nat.zero_le _,fun J m=>m,.nil,by simp only[o4]; exact H⟩
 clear H
 obtain⟨j,c2v,v5,v6,v7,v8,v9,v10,Dt,tvs,en,hj,hkt,hdt,H⟩:=hI
 by_cases hjN:j<vars.length
 ·exists agx [_,_,_,_,_,_] H (o5 hjN) fun s tj H=>?_,afs ?_,ajf ?_,sLC [_,_,_] 1 F C H fun s H=>?_
  refine anP hh F C f hvl hvd (hkt _ hra) (hrd.mono hkt) hlen hw h3 hjN hdt H fun s D2 tvs2 w5 w6 w7 w8 w9 w10 H hk2 hd2=>?_
  rw[o3,← ai8 hjN] at H
  exact⟨_,o1 en hjN,j+1,_,w5,w6,w7,w8,w9,w10,D2,tvs2,rfl,hjN,fun f m=>hk2 f (hkt f m),hd2,H⟩
 ·exists ajk [_,_,_,_,_,_] hh H (o6 hjN) fun s H=>?_
  refine aa0.lt H ?_; intro T' H
  cases o7 hjN hj
  exact h _ _ _ _ _ _ _ _ _ _ (aa0.cut 2 (H.pick [6,7,0,1,2,3,4,5] 8)) hkt hdt
noncomputable def ajy (vars:List aaJ) (rows:List (List (List Int))):List PyData:=(rows.filter fun row=>acz row vars).map fun row=>.list (adW row vars)
theorem aqh {due:Addr}{dvs:Array Value}{ds:List PyData}(hh:A.handled=none) (F:aa8 env aeo afz) (C:aap env .cell ["row", "j"] (abT env.locals 2)) (f:FIn D0 s0.heap) (hvl:⟨false,vl,vvs⟩∈D0) (hvd:RDs D0 vvs.toList (vars.map pvD)) (hra:⟨false,ra,rvs⟩∈D) (hrd:RDs D rvs.toList (row.map abv)) (hlen:row.length≤10) (hw:∀ way∈row,way.length=vars.length) (h3:vars.length≤3)
  (hds:RDs D dvs.toList ds) (hz:dvs.size≤900)
  (H:aa0 s (afB env v0 (some (.ref vl)) (some (.ref due)) v3 v4 v5 v6 v7 v8 v9 v10::aa5 w aaD aaD s0::aai (env.locals+1:Nat) (some (.ref ra))::aai (env.locals+2:Nat) c2v::fzR D::aa2 due dvs::L))
  (h:∀ s' c2v D' dvs' v3 v4 v5 v6 v7 v8 v9 v10,aa0 s' (afB env v0 (some (.ref vl)) (some (.ref due)) v3 v4 v5 v6 v7 v8 v9 v10::aa5 w aaD aaD s0::aai (env.locals+1:Nat) (some (.ref ra))::aai (env.locals+2:Nat) c2v::fzR D'::aa2 due dvs'::L)→(∀ f∈D,f∈D')→RDs D' dvs'.toList (ds++ajy vars [row])→dvs'.size≤dvs.size+1→Q .next s') :
  WP w A (execs aqc env) Q s:=by
 exists aa7 ?_,ac8 ?_
 refine ab5 ?_
 exists aa6 ⟨_,_,_,H,aam,fun s tl H=>sL 3 F H rfl fun s H=>?_⟩
 exists 0,aa7 ?_,ac8 ?_,akL ?_,sL 4 F H rfl fun s H=>?_,0,aa7 ?_
 refine apF hh F C f hvl hvd hra hrd hlen hw h3 (H.pick [0,1,3,4,5,2,6] 7) fun s c2v D1 tvs v5 v6 v7 v8 v9 v10 H hk hdt=>?_
 exists aa7 ?_,dIf ?_
 refine abP ?_
 exists dL 4 F H rfl ?_,tB ?_
 cases hgd:acz row vars with
 | true=>
  refine ifP (rfl) ?_
  exists 0,aa7 ?_,afi F.inter ?_,alP ?_,dL 2 F H rfl ⟨due,_,rfl,H.at [_,_,_,_,_,_],?_⟩
  exists dL 3 F H rfl ⟨[_,_,_,_,_,_],_,_,H,by exact q14 ‹_›,fun s H=>aer<|aaL<|aaL ?_⟩
  refine h _ _ _ _ _ _ _ _ _ _ _ _ (aa0.fzAdd [_,_,_,_] ⟨false,tl,tvs⟩ H) (fun f m=>.tail _ (hk f m)) ?_ (by rw[Array.size_push]; exact Nat.le_refl _)
  have e:ajy vars [row] = [.list (adW row vars)]:=by simp[ajy,hgd]
  simp only[e,Array.toList_push]
  exact (hds.mono fun f m=>.tail _ (hk f m)).append (.cons (.list (.head _) (hdt.mono fun f m=>.tail _ m)) .nil)
 | false=>
  refine ifN ((by decide)) ?_
  exists aaL ?_,aaL ?_
  refine h _ _ _ _ _ _ _ _ _ _ _ _ (aa0.cut 1 (H.pick [5,0,1,2,3,4,6] 7)) hk ?_ (Nat.le_succ _)
  have e:ajy vars [row] = []:=by simp[ajy,hgd]
  simp only[e,List.append_nil]
  exact hds.mono hk
end
section
variable {w:World}
theorem ajm {A:Around}{s:Shared}{va:Value}{vl:Addr}{Q:Value→Shared→Prop}(r:aah A 7 23) (B:Bs w s.heap)
  (h:∀ A' env s₁,aah A' 6 20→aa8 env aeo afz→aap env .cell ["row", "j"] (abT env.locals 2)→aa0 s₁ (afB env (some va) (some (.ref vl)) none none none none none none none none none::aa5 w aaD aaD s::aai (env.locals+1:Nat) none::aai (env.locals+2:Nat) none::[])→WP w A' (execs (aaa (D 16)) env) (fun fl s'=>Q (aiv fl) s') s₁) :
  WP w A (call (.ref 328) [va,.ref vl]) Q s:=by
 exists akb (d:=6) (u:=20) (vs:=[some va,some (.ref vl),none,none,none,none,none,none,none,none,none]) (vcs:=[none,none]) (binds:=[("amounts",va),("variables",.ref vl)]) asZ r B (aa0.start B) rfl (BindsTo.of_eq (by kernel_rfl)) ?_ (by decide +kernel) ?_ ?_ rfl fun A' env s₁ r' he F C H=>?_
 ·intro x hx
  simp only[List.mem_cons,List.not_mem_nil,or_false] at hx
  rcases hx with rfl | rfl
  ·exact .inl (by kernel_rfl)
  ·exact .inl (by kernel_rfl)
 ·intro y
  rw[ac1 (fun x hx=>by
   simp only[List.mem_cons,List.not_mem_nil,or_false] at hx
   rcases hx with rfl | rfl
   ·kernel_rfl
   ·kernel_rfl)]
  rw[Option.or_none]
  exact aay ["amounts", "variables"] [va,.ref vl] ["due", "told", "good", "name", "count", "least", "default", "given", "size"] [none,none,none,none,none,none,none,none,none] y (by decide +kernel) rfl (fun z hz=>by simpa using hz)
 ·intro i nm v h1 h2
  match i,h1,h2 with
  | 0,h1,h2=>cases h1; cases h2; kernel_rfl
  | 1,h1,h2=>cases h1; cases h2; kernel_rfl
  | i+2,h1,h2=>simp at h1
 exact h A' env s₁ r' F C (H.pick [0,3,1,2] 4)
inductive at8 (RW:List (List (List Int))) (Dr:List Fz) (vars:List aaJ) (env:Env) (va:Value) (vl due:Addr) (w:World) (s:Shared) (it rl:Addr) (n:Nat) (s':Shared):Prop
 | mk (i v3 v4 v5 v6 v7 v8 v9 v10 c1v c2v Dm dvs):n=RW.length - i→i≤RW.length→(∀ f∈Dr,f∈Dm)→RDs Dm dvs.toList (ajy vars (RW.take i))→dvs.size≤i→aa0 s' (afB env (some va) (some (.ref vl)) (some (.ref due)) v3 v4 v5 v6 v7 v8 v9 v10::aa5 w aaD aaD s::aai (env.locals+1:Nat) c1v::aai (env.locals+2:Nat) c2v::fzR Dm::aa2 due dvs::abx it rl i::[])→at8 RW Dr vars env va vl due w s it rl n s'
theorem ar9 {A:Around}{s:Shared}{D:List Fz}{va vv:Value}{ams:List Nat}{vars:List aaJ}{Q:Value→Shared→Prop}(r:aah A 7 23) (B:Bs w s.heap) (f:FIn D s.heap) (ra:RD D va (aia ams)) (rv:RD D vv (.list (vars.map pvD)))
  (h3:vars.length≤3) (hc:∀ p∈vars,1≤p.count∧p.count≤3) (ha:∀ a∈ams,a≤4) (hal:ams.length≤10) (hb:∀ i,(aav (pcs vars) (ams.take i)).length≤900)
  (h:∀ s' v D',acr (fzR D') s s'→RD D' v (.list (abX ams vars))→Q v s'):WP w A (call (.ref 328) [va,vv]) Q s:=by
 obtain⟨vl,vvs,rfl,hvl,hvd⟩:=rv.lst
 refine ajm r B fun A' env s₁ r' F C H=>?_
 exists aa7 ?_,ac8 ?_
 refine ab5 ?_
 exists aa6 ⟨_,_,_,H,aam,fun s₂ due H=>sL 2 F H rfl fun s₂ H=>?_⟩
 exists 0,aa7 ?_,aem ?_,acj 0 11 F asN H ?_,spL 0 F H rfl ?_,spL 1 F H rfl ?_,aa6 ⟨H.bs,aq6 (r'.mono (by decide) (by decide)) H.bs (f.keeps H.old) ra (rv) h3 hc ha hal hb fun s3 rowsv Dr mk hrows=>?_⟩
 replace H:=H.made mk
 have hwid:=ade (pcs vars) ams [[]] 0 (fun r m=>by rw[List.mem_singleton.mp m]; rfl)
 have hwy:=afQ (pcs vars) ams [[]] (fun r m x hx=>by rw[List.mem_singleton.mp m] at hx; nomatch hx)
 change ∀ r∈aav (pcs vars) ams,_ at hwid
 change ∀ r∈aav (pcs vars) ams,_ at hwy
 have hbn:=hb ams.length
 rw[List.take_length] at hbn
 have edue:abX ams vars=ajy vars (aav (pcs vars) ams):=rfl
 simp only[edue] at h
 obtain⟨rl,rlv,rfl,hrl,hrds⟩:=hrows.lst
 have hrlz:rlv.size=(aav (pcs vars) ams).length:=by have:=hrds.length; simpa using this
 generalize aav (pcs vars) ams=RW at hrds hrlz h hwid hwy hbn
 have hfz:∀ {s:Shared} {Dm:List Fz},(∀ f∈Dr,f∈Dm)→(fzR Dm).P s→s.heap.IsList rl rlv:=fun {s} {Dm} k h=>(show s.heap.PlainList rl rlv from aas h _ (k _ hrl)).isList
 exists aaM (hfz (fun J m=>m) (H.at [_,_])) H fun s4' it H=>?_
 replace H:=H.pick [0,1,5,6,3,4,2] 7
 dsimp only[ac7,ac4,aeA,abV,List.cons_append,List.nil_append,List.append] at H
 exists abB (I:=at8 RW Dr vars env va vl due w s it rl) (fun n s' hI=>?_) _ ⟨0,_,_,_,_,_,_,_,_,_,_,_,_,rfl,Nat.zero_le _,fun J m=>m,.nil,Nat.le_refl _,H⟩
 clear H
 obtain⟨i,v3,v4,v5,v6,v7,v8,v9,v10,c1v,c2v,Dm,dvs,en,hi,hk,hds,hdz,H⟩:=hI
 cases hr:RW[i]? with
 | none=>
  have hlen:=List.getElem?_eq_none_iff.mp hr
  exists abF [_,_,_,_,_,_] r'.handled H (hfz hk (H.at [_,_,_,_])) (o2 hrlz hlen) fun s5 H=>?_
  refine aa7 ?_
  exists agD ?_,dL 2 F H rfl ?_
  simp only[List.take_of_length_le hlen] at hds
  exact h _ _ _ (aa0.fzAdd [_,_] ⟨false,due,dvs⟩ (H.pick [0,1,4,5,2,3,6] 7)).out (.list (.head _) (hds.mono fun f m=>.tail _ m))
 | some row=>
  have hrm:=List.mem_of_getElem? hr
  have hw2:∀ way∈row,way.length=vars.length:=fun way m=>by rw[hwy row hrm way m]; simp[pcs]
  have hwl:row.length≤10:=by rw[hwid row hrm,Nat.zero_add]; exact hal
  obtain⟨x,hx,hxd⟩:=hrds.get (i:=i) (y:=ai0 row) (by rw[List.getElem?_map,hr]; rfl)
  obtain⟨ra',rvs,rfl,hra,hrd⟩:=hxd.lst
  exists aaN [_,_,_,_,_,_] H (hfz hk (H.at [_,_,_,_])) (by simpa using hx) fun s5 H=>?_,afs ?_,ajf ?_,sLC [_,_] 0 F C H fun s5 H=>?_
  refine aqh r'.handled F C f hvl hvd (hk _ hra) (hrd.mono hk) hwl hw2 h3 hds (by lia) H fun s c2v D' dvs' v3 v4 v5 v6 v7 v8 v9 v10 H hk2 hd hz=>?_
  refine⟨_,o1 en ((List.getElem?_eq_some_iff.mp hr).1),i+1,_,_,_,_,_,_,_,_,_,_,_,_,rfl,((List.getElem?_eq_some_iff.mp hr).1),fun f m=>hk2 f (hk f m),?_,Nat.le_trans hz (Nat.succ_le_succ hdz),H⟩
  have e:ajy vars (RW.take (i+1))=ajy vars (RW.take i)++ajy vars [row]:=by
   unfold ajy
   simp only[List.take_add_one,hr,List.filter_append,List.map_append]; rfl
  rw[e]
  exact hd
end
section
variable {w:World}{A:Around}{s s0:Shared}{env:Env}{L:List Res}{ns gs:List Str}{R R₂:Res}
theorem an5 {l:Addr}{items:Array Value}{Q:Bool→Shared→Prop}(H:aa0 s L) (hl:s.heap.IsList l items) (hz:items.size<1000000) (h:∀ s',aa0 s' L→Q (!items.isEmpty) s'):WP w A (truthy (.ref l)) Q s:=by
 refine .of (wpAny_truthy_list hl (by lia) ?_)
 exact h _ (H.keep (aab (s.toks+1+1)))
theorem ats {a b:Int}{t u:Tok}{Q:Value→Shared→Prop}(hh:A.handled=none) (H:aa0 s L) (h:∀ s' v,aa0 s' L→Q (.int (min a b) v) s'):WP w A (call (.builtin "min") [.int a t,.int b u]) Q s:=by
 refine .of (min_two_ints hh fun h' tk hk=>?_)
 by_cases hb:b<a
 ·rw[if_pos hb]
  have:=h _ u (H.keep (aaO hk tk))
  rw[Int.min_eq_right (by lia)] at this
  exact this
 ·rw[if_neg hb]
  have:=h _ t (H.keep (aaO hk tk))
  rw[Int.min_eq_left (by omega)] at this
  exact this
theorem ajJ {value:Expr}{sl su:Option Expr}{p2:Pos}{t b:Addr}{items:Array Value}{Q:Value→Shared→Prop}(ht:s.heap.IsList t items) (hg:∀ r,letTemporaryGo value (.ref t) r=pure ())
  (h:WP w A (getItem (.ref t) (.ref b)) Q s):WP w A (subscriptTail value (.Slice sl su none p2) (.ref t) (.ref b)) Q s:=by
 unfold subscriptTail
 refine .bind (.bind (.of (wpAny_specialOf ht.typeIs slot_list_getitem.lookup ?_)))
 refine .pure ?_
 exact .bind (.operate (h.mono fun r s₂ x=>.bind (.eq (hg r) (.pure x))))
theorem ar6 {value:Expr}{a b k k2:Nat}{p1 p2 p3 pos:Pos}{Q:Value→Shared→Prop}
  (h:WP w A (eval value env) (fun o s₁=>∃ t items R R₂ L,o=.ref t∧aa0 s₁ (R::R₂::L)∧(∀ s:Shared,aa0 s (R::R₂::L)→s.heap.IsList t items)∧items.size≤sizeLine∧(∀ r,letTemporaryGo value (.ref t) r=pure ()) ∧
   ∀ s' c,aa0 s' (R::R₂::aa2 c (slicePick items (some (a:Int)) (some (b:Int)) none)::L)→Q (.ref c) s') s) :
  WP w A (eval (.Subscript value (.Slice (some (.Constant (.int a) k p1)) (some (.Constant (.int b) k2 p3)) none p2) pos) env) Q s:=by
 exists aaw (h.mono fun o s₁ x=>?_)
 obtain⟨t,items,R,R₂,L,rfl,H,hl,hsz,hg,hQ⟩:=x
 refine .bind ?_
 show WP w A (eval (.Constant (.int a) k p1) env) _ _
 exists aaW H fun s₂ u H2'=>?_
 refine .bind (.hold ?_)
 show WP w A (eval (.Constant (.int b) k2 p3) env) _ _
 exists aaW H2' fun s3 u2 H2'=>?_
 refine .bind (.hold (.pure ?_))
 refine .of (wpAny_newObj_type ?_ (by size_fits))
 have H3':=H2'.keep (aci { cls:=.type "slice",data:=.fields #[.int a u,.int b u2,.none] } s3.toks)
 refine ajJ (hl _ H3') hg (.of (wpAny_getItem_list_slice (hl _ H3') (Heap.IsSliceOf.new ..) (.int a u) (.int b u2) .none (by decide) ?_ hsz))
 exact hQ _ _ (H3'.made (R':=aa2 _ _) (.of (fun J J e=>Heap.get?_push_of_some _ e) rfl rfl ⟨_,Heap.get?_push_size _ rfl⟩ aa9 fun J z=>z))
end
noncomputable def abU (ams:List Nat) (n:Int):List Nat:=ams++[min (n.fmod 4).toNat (4 - ams.sum)]
noncomputable def agk (script:List Int):List Nat:=((script.drop 1).take 3).foldl abU []
theorem aig {ams:List Nat}{n:Int}(h:ams.sum≤4):(abU ams n).sum≤4:=by
 unfold abU
 simp only[List.sum_append,List.sum_cons,List.sum_nil,Nat.add_zero]
 exact Nat.le_trans (Nat.add_le_add_left (Nat.min_le_right _ _) _) (Nat.le_of_eq (Nat.add_sub_cancel' h))
theorem ak0:∀ (l:List Int) (ams:List Nat),ams.sum≤4→(l.foldl abU ams).sum≤4:=by
 intro xX
 induction xX with
 | nil=>exact @fun J h=>h
 | cons hX l ih=>exact @fun J h=>ih _ (aig h)
theorem ajX:∀ (l:List Int) (ams:List Nat),(l.foldl abU ams).length=ams.length+l.length:=by
 intro xX
 induction xX with
 | nil=>exact @fun J=>rfl
 | cons n l ih=>refine @fun ams=>?_; simp only[List.foldl_cons,ih,abU,List.length_append,List.length_cons]; simp; exact q23
theorem ahu:∀ ams:List Nat,(ams.map fun a:Nat=>(a:Int)).sum=(ams.sum:Nat):=by
 intro xX
 induction xX with
 | nil=>exact rfl
 | cons a ams ih=>simp only[List.map_cons,List.sum_cons,List.sum_cons,ih]; push_cast; rfl
theorem ain (l:List Int):(l.drop 1).take (min 4 l.length - 1)=(l.drop 1).take 3:=by
 by_cases h:4≤l.length
 ·rw[Nat.min_eq_left h]
 ·have h:=Nat.le_of_lt (Nat.lt_of_not_le h)
  rw[Nat.min_eq_right h,List.take_of_length_le (Nat.le_of_eq List.length_drop),List.take_of_length_le (by rw[List.length_drop]; exact Nat.sub_le_sub_right h 1)]
theorem alD {x:Int}{s:Nat}(hx:0≤x) (h:s≤4):min x (4 - (s:Int))=((min x.toNat (4 - s):Nat):Int):=by
 obtain⟨n,rfl⟩:=Int.eq_ofNat_of_zero_le hx
 simp only[Int.toNat_natCast]
 lia
section
variable {w:World}{A:Around}{s s0:Shared}{env:Env}{L:List Res}{fp:Addr→Prop}{gp:Nat→Prop}{v1 v2 v3 v4 v5 v6 v7 v8 v9 v10 v11 v12 v13 v14 v15 v16:Option Value}
noncomputable abbrev ab0 (env:Env) (v0 v1 v2 v3 v4 v5 v6 v7 v8 v9 v10 v11 v12 v13 v14 v15 v16:Option Value):Res:=aa1 env.locals (aal abc [v0,v1,v2,v3,v4,v5,v6,v7,v8,v9,v10,v11,v12,v13,v14,v15,v16])
theorem aa0.oldF {R₁:Res}(H:aa0 s (R₁::aa5 w fp gp s0::L)):∀ a o,¬ fp a→s0.heap.get? a=some o→s.heap.get? a=some o:=fun a o h e=>(H.at [_]).kept.heap a o h e
inductive IAm (ms:List Int) (env:Env) (sl:Addr) (v1 v3 v4 v5 v6 v7 v8 v9 v10 v11 v12 v13 v14 v15 v16:Option Value) (w:World) (fp:Addr→Prop) (gp:Nat→Prop) (s0:Shared) (it c:Addr) (sp:Array Value) (al:Addr) (L:List Res) (n:Nat) (s':Shared):Prop
 | mk (i v2 av):n=ms.length - i→i≤ms.length→IntsAre av (((ms.take i).foldl abU []).map fun a:Nat=>(a:Int))→aa0 s' (ab0 env (some (.ref sl)) v1 v2 v3 v4 v5 v6 v7 v8 v9 v10 v11 v12 v13 v14 v15 v16::aa5 w fp gp s0::abx it c i::aa2 c sp::aai (env.locals+1:Nat) (some (.ref al))::aa2 al (List.toArray av)::L)→IAm ms env sl v1 v3 v4 v5 v6 v7 v8 v9 v10 v11 v12 v13 v14 v15 v16 w fp gp s0 it c sp al L n s'
theorem aqx {sl al:Addr}{svs:List Value}{script:List Int}{Q:Flow→Shared→Prop}(hh:A.handled=none) (F:aa8 env abc abf) (C:aap env .cell ["amounts"] (abT env.locals 1)) (hs:s0.heap.IsList sl svs.toArray) (hfp:¬ fp sl) (hi:IntsAre svs script) (hsz:svs.toArray.size≤sizeLine)
  (H:aa0 s (ab0 env (some (.ref sl)) v1 v2 v3 v4 v5 v6 v7 v8 v9 v10 v11 v12 v13 v14 v15 v16::aa5 w fp gp s0::aai (env.locals+1:Nat) (some (.ref al))::aa2 al #[]::L))
  (h:∀ s' v2 av,aa0 s' (ab0 env (some (.ref sl)) v1 v2 v3 v4 v5 v6 v7 v8 v9 v10 v11 v12 v13 v14 v15 v16::aa5 w fp gp s0::aai (env.locals+1:Nat) (some (.ref al))::aa2 al (List.toArray av)::L)→IntsAre av ((agk script).map fun a:Nat=>(a:Int))→Q .next s') :
  WP w A (exec (at' (aaa (D 17)) 2) env) Q s:=by
 have hk:∀ s':Shared,aa0 s' (ab0 env (some (.ref sl)) v1 v2 v3 v4 v5 v6 v7 v8 v9 v10 v11 v12 v13 v14 v15 v16::aa5 w fp gp s0::aai (env.locals+1:Nat) (some (.ref al))::aa2 al #[]::L)→s'.heap.IsList sl svs.toArray:=fun s' H=>let ⟨o,ho,q⟩:=hs; ⟨o,H.oldF _ _ hfp ho,q⟩
 exists 0,aem ?_,ar6 (a:=1) (b:=4) ?_,dL 0 F H rfl ⟨sl,svs.toArray,_,_,_,rfl,H,hk,hsz,fun J=>rfl,fun s c H=>?_⟩
 have hm:=kmk_run (x:=1) (y:=4) hi (by decide) (by decide)
 have e4:(script.drop (1:Int).toNat).take (min (4:Int).toNat script.length - (1:Int).toNat)=(script.drop 1).take 3:=ain script
 rw[e4] at hm
 have hml:((script.drop 1).take 3).length≤3:=by rw[List.length_take]; lia
 have eam:agk script=((script.drop 1).take 3).foldl abU []:=rfl
 generalize (script.drop 1).take 3=ms at hm hml eam
 generalize eS:slicePick svs.toArray (some ((1:Nat):Int)) (some ((4:Nat):Int)) none=sp at H
 have hm2:IntsAre sp.toList ms:=by rw[← eS]; exact hm
 have hspl:sp.size=ms.length:=by have:=hm2.length; simpa using this
 exists aqf [] H fun s it H=>?_
 exists abB (I:=IAm ms env sl v1 v3 v4 v5 v6 v7 v8 v9 v10 v11 v12 v13 v14 v15 v16 w fp gp s0 it c sp al L) (fun n s' hI=>?_) _ ⟨0,v2,[],rfl,Nat.zero_le _,.nil,H⟩
 obtain⟨i,v2,av,en,hi,hav,H⟩:=hI
 cases hr:ms[i]? with
 | none=>
  have hlen:=List.getElem?_eq_none_iff.mp hr
  exists abF [_,_] hh H (H.at [_,_,_]).isList (by rw[Array.getElem?_eq_none_iff]; exact q11 ‹_› ‹_› ‹_›) fun s H=>?_
  rw[List.take_of_length_le hlen,← eam] at hav
  exact h _ _ _ (aa0.cut 2 (H.pick [2,3,0,1,4,5] 6)) hav
 | some a=>
  have hlt:=(List.getElem?_eq_some_iff.mp hr).1
  obtain⟨t0,hx⟩:∃ t,sp[i]? = some (.int a t):=by
   obtain⟨x,hx,hxd⟩:=(RDs.ints (D:=[]) hm2).get (i:=i) (y:=.int a) (by rw[List.getElem?_map,hr]; rfl)
   obtain⟨t,rfl⟩:=hxd.inti
   exact⟨t,by simpa using hx⟩
  have hsum:=ak0 (ms.take i) [] (by decide)
  have hln:=ajX (ms.take i) []
  rw[List.length_take] at hln
  have enx:(ms.take (i+1)).foldl abU [] = abU ((ms.take i).foldl abU []) a:=by
   simp only[List.take_add_one,hr,List.foldl_append]; rfl
  generalize (ms.take i).foldl abU [] = am at hav hsum hln enx
  have havl:av.length=am.length:=by have:=hav.length; simpa using this
  have hfm:0≤a.fmod 4:=Int.fmod_nonneg_of_pos a (by decide)
  exists aaN [_,_] H (H.at [_,_,_]).isList hx fun s H=>?_
  refine aa0.lt H ?_; intro T' H
  exists goS 2 F H rfl fun s H=>?_,aa7 ?_,afi F.inter ?_,alP ?_
  refine dLC [_,_,_,_] 0 F C H ⟨al,_,rfl,H.at [_,_,_,_,_],?_⟩
  exists aaj 0 11 F H ?_,aa3 ?_
  refine abG ?_
  exists dL 2 F H rfl ?_,aaW H fun s t H=>?_,akE H (by decide) fun s t H=>?_,aa3 ?_
  refine abG ?_
  exists aaW H fun s t H=>?_,aaj 1 10 F H ?_
  refine aa3 ?_
  exists dLC [_,_,_,_] 0 F C H ?_,aa6 ?_,ari hh H (show Heap.PlainList _ al _ from H.at [_,_,_,_,_]).isList hav fun s t H=>?_
  refine arj H fun s t H=>?_
  exists aa6 ?_,ats hh H fun s tv H=>?_
  refine⟨[_,_,_,_,_],_,_,H,by simp; simp at hln; lia,fun s H=>aer<|aaL ?_⟩
  have ev:min (a.fmod 4) (4 - (am.map fun a:Nat=>(a:Int)).sum)=((min (a.fmod 4).toNat (4 - am.sum):Nat):Int):=by
   rw[ahu]; exact alD hfm hsum
  simp only[ev] at H
  refine⟨ms.length - (i+1),by exact q1 ‹_› ‹_›,i+1,some (.int a t0),av++[.int ((min (a.fmod 4).toNat (4 - am.sum):Nat):Int) tv],rfl,hlt,?_,by simpa using H⟩
  simp only[enx,abU,List.map_append]
  exact hav.append (.cons _ _ .nil)
end
noncomputable def acP (script:List Int) (first:Int) (j:Nat):Int:=if 4+j<script.length then script.getD (4+j) 0 else first.fdiv 9
noncomputable def amG (j:Nat):Str:=(["x", "y", "z"]:List Str).getD j "x"
noncomputable def apL (j:Nat):Str:=(["d", "e", "h"]:List Str).getD j "d"
noncomputable def afO (script:List Int) (first:Int) (j:Nat):aaJ:=
 ⟨some (amG j),(1+(acP script first j).fmod 3).toNat,(((acP script first j).fdiv 3).fmod 3).toNat,if ((acP script first j).fdiv 9).fmod 3=0 then some (apL j) else none⟩
noncomputable def anB:List Stmt:=adU (at' (aaa (D 17)) 4)
theorem df3 {t1 t2 t3:Tok}:∀ {j:Nat},j<3→∃ dt,(List.toArray [Value.str "d" t1,.str "e" t2,.str "h" t3])[j]? = some (acb (some (apL j)) dt)
 | 0,_=>⟨t1,rfl⟩
 | 1,_=>⟨t2,rfl⟩
 | 2,_=>⟨t3,rfl⟩
 | _+3,h=>absurd h (by lia)
theorem nm3 {t1 t2 t3:Tok}:∀ {j:Nat},j<3→∃ dt,(List.toArray [Value.str "x" t1,.str "y" t2,.str "z" t3])[j]? = some (acb (some (amG j)) dt)
 | 0,_=>⟨t1,rfl⟩
 | 1,_=>⟨t2,rfl⟩
 | 2,_=>⟨t3,rfl⟩
 | _+3,h=>absurd h (by lia)
section
variable {w:World}{A:Around}{s s0:Shared}{env:Env}{L:List Res}{v1 v2 v3 v4 v5 v6 v7 v8 v9 v10 v11 v12 v13 v14 v15 v16:Option Value}{sl:Addr}{fp:Addr→Prop}{gp:Nat→Prop}{R₂:Res}
theorem atp {num:Int}{tn tj:Tok}{j:Nat}{Q:Flow→Shared→Prop}(F:aa8 env abc abf) (hj:j<3)
  (H:aa0 s (ab0 env (some (.ref sl)) v1 (some (.int num tn)) v3 (some (.int j tj)) v5 v6 v7 v8 v9 v10 v11 v12 v13 v14 v15 v16::R₂::L))
  (h:∀ s' dt,aa0 s' (ab0 env (some (.ref sl)) v1 (some (.int num tn)) v3 (some (.int j tj)) (some (acb (if (num.fdiv 9).fmod 3=0 then some (apL j) else none) dt)) v6 v7 v8 v9 v10 v11 v12 v13 v14 v15 v16::R₂::L)→Q .next s') :
  WP w A (exec (at' anB 1) env) Q s:=by
 exists 0,ac8 ?_,anZ ?_,abS ?_,abG ?_,abG ?_,dL 2 F H rfl ?_,aaW H fun s t H=>?_,0,aiI H (by decide) (by decide) fun s t H=>?_,aaW H fun s t H=>?_,akE H (by decide) fun s t H=>?_,aaW H fun s t H=>?_,tEq ?_
 by_cases h0:(num.fdiv 9).fmod 3=0
 ·refine ifP ((by simpa using h0)) ?_
  rw[if_pos h0] at h
  exists 0,aaw ?_,ab5 ?_,aa3 ?_,aoS H fun s t1 H=>?_,aa3 ?_,aoS H fun s t2 H=>?_,aa3 ?_,aoS H fun s t3 H=>?_,0,aa6 ⟨_,_,_,H,aam,fun s q H=>?_⟩
  obtain⟨dt,e⟩:=df3 (t1:=t1) (t2:=t2) (t3:=t3) hj
  have hq:s.heap.IsList q (List.toArray [Value.str "d" t1,.str "e" t2,.str "h" t3]):=(show Heap.PlainList _ q _ from H.at [_,_]).isList
  exists dL 4 F H rfl ?_,abu hq e (by exact q67 ‹_›) ?_,sL 5 F H rfl fun s H=>?_
  exact h _ dt (aa0.cut 1 (H.pick [2,0,1] 3))
 ·refine ifN ((by simpa using h0)) ?_
  rw[if_neg h0] at h
  exact ad5<|sL 5 F H rfl fun s H=>h _ default H
end
section
variable {w:World}{A:Around}{s s0:Shared}{env:Env}{L:List Res}{v1 v2 v3 v4 v5 v6 v7 v8 v9 v10 v11 v12 v13 v14 v15 v16:Option Value}{sl:Addr}{fp:Addr→Prop}{gp:Nat→Prop}{R₂:Res}
theorem arL {l:Addr}{items:Array Value}{Q:Value→Shared→Prop}(H:aa0 s L) (hl:s.heap.IsList l items) (hn:items.size≤sizeLine) (h:∀ s' t,aa0 s' L→Q (.int items.size t) s'):WP w A (call (.builtin "len") [.ref l]) Q s:=
 .of (PyProof.Rows.len_list hl (by have e:sizeLine=16777216:=rfl; lia) (h _ _ (H.keep (aab (s.toks+1+1)))))
theorem atZ {svs:List Value}{script:List Int}{first:Int}{tf tj:Tok}{j:Nat}{Q:Flow→Shared→Prop}(F:aa8 env abc abf) (hj:j<3) (hs:s0.heap.IsList sl svs.toArray) (hfp:¬ fp sl) (hi:IntsAre svs script) (hsz:svs.toArray.size≤sizeLine)
  (H:aa0 s (ab0 env (some (.ref sl)) (some (.int first tf)) v2 v3 (some (.int j tj)) v5 v6 v7 v8 v9 v10 v11 v12 v13 v14 v15 v16::aa5 w fp gp s0::L))
  (h:∀ s' t,aa0 s' (ab0 env (some (.ref sl)) (some (.int first tf)) (some (.int (acP script first j) t)) v3 (some (.int j tj)) v5 v6 v7 v8 v9 v10 v11 v12 v13 v14 v15 v16::aa5 w fp gp s0::L)→Q .next s') :
  WP w A (exec (at' anB 0) env) Q s:=by
 have hk:∀ {s':Shared} {R:Res} {L:List Res},aa0 s' (R::aa5 w fp gp s0::L)→s'.heap.IsList sl svs.toArray:=fun H=>let ⟨o,ho,q⟩:=hs; ⟨o,H.oldF _ _ hfp ho,q⟩
 have hl:svs.toArray.size=script.length:=by rw[List.size_toArray,hi.length]
 have e4:(4:Int)+((j:Nat):Int)=((4+j:Nat):Int):=by push_cast; rfl
 exists 0,ac8 ?_,anZ ?_,abS ?_,aaj 3 2 F H ?_,spL 0 F H rfl ?_,aa6 ?_,arL H (hk H) hsz fun s t H=>?_,0,abG ?_,aaW H fun s t H=>?_,dL 4 F H rfl ?_,ana H fun s t H=>?_,dGt ?_,tB ?_
 rw[e4,hl]
 by_cases h0:4+j<script.length
 ·refine ifP ((by rw[decide_eq_true_eq]; exact q31 ‹_›)) ?_
  have en:acP script first j=script.getD (4+j) 0:=by unfold acP; rw[if_pos h0]
  exists aaw ?_,dL 0 F H rfl ?_
  refine abG ?_
  exists aaW H fun s t H=>?_,dL 4 F H rfl ?_,ana H fun s t H=>?_
  obtain⟨x,hx,hxd⟩:=(RDs.ints (D:=[]) hi).get (i:=4+j) (y:=.int (acP script first j)) (by simp only[en,List.getElem?_map,List.getD_eq_getElem?_getD,List.getElem?_eq_getElem h0]; rfl)
  obtain⟨t2,rfl⟩:=hxd.inti
  exists abu (k:=4+j) (hk H) (by simpa using hx) (by lia) ?_,sL 2 F H rfl fun s H=>?_
  exact h _ _ H
 ·refine ifN ((by rw[decide_eq_true_eq]; omega)) ?_
  have en:acP script first j=first.fdiv 9:=by unfold acP; rw[if_neg h0]
  exists abG ?_,dL 1 F H rfl ?_,aaW H fun s t H=>?_,aiI H (by decide) (by decide) fun s t H=>?_,sL 2 F H rfl fun s H=>?_
  rw[← en] at H
  exact h _ _ H
end
section
variable {w:World}{A:Around}{s s0:Shared}{env:Env}{L:List Res}{v0 v1 v2 v3 v4 v5 v6 v7 v8 v9 v10 v11 v12 v13 v14 v15 v16:Option Value}{fp:Addr→Prop}{gp:Nat→Prop}{R₂ C1:Res}{D:List Fz}
theorem atW {num:Int}{tn tj dt:Tok}{j:Nat}{d:Option Str}{vl:Addr}{vvs:Array Value}{Q:Flow→Shared→Prop}(F:aa8 env abc abf) (hj:j<3) (hz:vvs.size≤900)
  (H:aa0 s (ab0 env v0 v1 (some (.int num tn)) (some (.ref vl)) (some (.int j tj)) (some (acb d dt)) v6 v7 v8 v9 v10 v11 v12 v13 v14 v15 v16::aa5 w fp gp s0::C1::fzR D::aa2 vl vvs::L))
  (h:∀ s' f x,aa0 s' (ab0 env v0 v1 (some (.int num tn)) (some (.ref vl)) (some (.int j tj)) (some (acb d dt)) v6 v7 v8 v9 v10 v11 v12 v13 v14 v15 v16::aa5 w fp gp s0::C1::fzR (f::D)::aa2 vl (vvs.push x)::L)→
   RD (f::D) x (pvD ⟨some (amG j),(1+num.fmod 3).toNat,((num.fdiv 3).fmod 3).toNat,d⟩)→Q .next s') :
  WP w A (exec (at' anB 2) env) Q s:=by
 exists 0,afi F.inter ?_,alP ?_,dL 3 F H rfl ⟨vl,_,rfl,(H.at (R:=aa2 vl vvs) [_,_,_,_]),?_⟩
 exists ael ?_,aa3 ?_,aaw ?_,ab5 ?_
 refine aa3 ?_
 exists aoS H fun s t1 H=>?_,0,aa3 ?_,aoS H fun s t2 H=>?_,0,aa3 ?_
 refine aoS H fun s t3 H=>?_
 exists 0
 refine aa6 ⟨_,_,_,H,aam,fun s q H=>?_⟩
 obtain⟨nt,e⟩:=nm3 (t1:=t1) (t2:=t2) (t3:=t3) hj
 have hq:s.heap.IsList q (List.toArray [Value.str "x" t1,.str "y" t2,.str "z" t3]):=(show Heap.PlainList _ q _ from H.at [_,_]).isList
 exists 0,dL 4 F H rfl ?_,abu hq e (by exact q67 ‹_›) ?_,aa3 ?_,abG ?_,aaW H fun s t H=>?_,0,abG ?_,dL 2 F H rfl ?_,aaW H fun s t H=>?_,0,akE H (by decide) fun s t H=>?_,0,ana H fun s tc H=>?_,aa3 ?_,abG ?_,abG ?_,dL 2 F H rfl ?_,aaW H fun s t H=>?_,aiI H (by decide) (by decide) fun s t H=>?_,aaW H fun s t H=>?_,akE H (by decide) fun s tm H=>?_,spL 5 F H rfl ?_,aa6 ⟨_,_,_,H,aam,fun s a H=>?_⟩
 replace H:=H.pick [0,1,4,5,6,2,3] 7
 refine⟨[_,_,_,_],_,_,H,by exact q14 ‹_›,fun s H=>aer ?_⟩
 refine h _ _ _ (aa0.cut 1 ((aa0.fzAdd [_,_,_] ⟨true,a,List.toArray [acb (some (amG j)) nt,.int (1+num.fmod 3) tc,.int ((num.fdiv 3).fmod 3) tm,acb d dt]⟩ (H.pick [0,1,2,3,5,4,6] 7)).pick [5,0,1,2,3,4] 6)) (.tuple (.head _) (.cons atj (.cons ?_ (.cons ?_ (.cons atj .nil)))))
 ·have e1:((1+num.fmod 3).toNat:Int)=1+num.fmod 3:=by lia
  exact (e1).symm▸(.int _ _)
 ·have e1:(((num.fdiv 3).fmod 3).toNat:Int)=(num.fdiv 3).fmod 3:=by grind
  exact (e1).symm▸(.int _ _)
end
noncomputable def arD:Stmt:=at' (aaa (D 17)) 4
noncomputable def aiH (first:Int):Nat:=(1+first.fmod 3).toNat
section
variable {w:World}{A:Around}{s s0:Shared}{env:Env}{L:List Res}{fp:Addr→Prop}{gp:Nat→Prop}{v0 v1 v2 v3 v4 v5 v6 v7 v8 v9 v10 v11 v12 v13 v14 v15 v16:Option Value}{C1:Res}{D:List Fz}
inductive atf (N:Nat) (D:List Fz) (script:List Int) (first:Int) (env:Env) (sl:Addr) (tf:Tok) (vl:Addr) (v6 v7 v8 v9 v10 v11 v12 v13 v14 v15 v16:Option Value) (w:World) (fp:Addr→Prop) (gp:Nat→Prop) (s0:Shared) (C1:Res) (it rg:Addr) (t1 t2 t3:Tok) (L:List Res) (n:Nat) (s':Shared):Prop
 | mk (j:Nat) (v2 v4 v5:Option Value) (Dt:List Fz) (vvs:Array Value):n=N - j→j≤N→(∀ f∈D,f∈Dt)→RDs Dt vvs.toList (((List.range j).map (afO script first)).map pvD)→aa0 s' (ab0 env (some (.ref sl)) (some (.int first tf)) v2 (some (.ref vl)) v4 v5 v6 v7 v8 v9 v10 v11 v12 v13 v14 v15 v16::aa5 w fp gp s0::C1::fzR Dt::aa2 vl vvs::ahS it (j:Nat) ((N:Int) - (j:Nat)) 1::akB rg 0 N 1 t1 t2 t3::L)→atf N D script first env sl tf vl v6 v7 v8 v9 v10 v11 v12 v13 v14 v15 v16 w fp gp s0 C1 it rg t1 t2 t3 L n s'
theorem anR {sl vl:Addr}{svs:List Value}{script:List Int}{first:Int}{tf:Tok}{Q:Flow→Shared→Prop}(hh:A.handled=none) (F:aa8 env abc abf) (hs:s0.heap.IsList sl svs.toArray) (hfp:¬ fp sl) (hi:IntsAre svs script) (hsz:svs.toArray.size≤sizeLine)
  (H:aa0 s (ab0 env (some (.ref sl)) (some (.int first tf)) v2 (some (.ref vl)) v4 v5 v6 v7 v8 v9 v10 v11 v12 v13 v14 v15 v16::aa5 w fp gp s0::C1::fzR D::aa2 vl #[]::L))
  (h:∀ s' v2 v4 v5 D' vvs,aa0 s' (ab0 env (some (.ref sl)) (some (.int first tf)) v2 (some (.ref vl)) v4 v5 v6 v7 v8 v9 v10 v11 v12 v13 v14 v15 v16::aa5 w fp gp s0::C1::fzR D'::aa2 vl vvs::L)→(∀ f∈D,f∈D')→RDs D' vvs.toList (((List.range (aiH first)).map (afO script first)).map pvD)→Q .next s') :
  WP w A (exec arD env) Q s:=by
 have h1:0≤first.fmod 3:=Int.fmod_nonneg_of_pos _ (by decide)
 have eN:1+first.fmod 3=((aiH first:Nat):Int):=by unfold aiH; lia
 have hN:aiH first≤3:=by unfold aiH; grind
 refine aem ?_
 refine abo 2 9 F H ?_
 refine aa3 ?_
 refine abG ?_
 refine aaW H fun s t H=>?_
 exists 0
 refine abG ?_
 refine dL 1 F H rfl ?_
 refine aaW H fun s t H=>?_
 refine akE H (by decide) fun s t H=>?_
 refine ana H fun s t H=>?_
 refine aa6 ?_
 rw[eN]
 generalize aiH first=N at hN h
 exists aeB H fun s rg t1 t2 t3 H=>?_,aeF [] H (by lia) fun s it H=>?_
 replace H:=H.pick [0,1,4,5,6,2,3] 7
 exists abB (I:=atf N D script first env sl tf vl v6 v7 v8 v9 v10 v11 v12 v13 v14 v15 v16 w fp gp s0 C1 it rg t1 t2 t3 L) (fun n s' hI=>?_) _ ⟨0,v2,v4,v5,D,#[],rfl,Nat.zero_le _,fun J m=>m,.nil,by simp only[show (N:Int) - ((0:Nat):Int)=N by lia]; exact H⟩
 obtain⟨j,v2,v4,v5,Dt,vvs,en,hj,hk,hd,H⟩:=hI
 by_cases hjN:j<N
 ·exists agx [_,_,_,_,_] H (by exact q45 ‹_›) fun s tj H=>?_,goS 4 F H rfl fun s H=>?_
  have hz:vvs.size=j:=by have:=hd.length; simpa using this
  exists aa7 ?_,atZ F (by lia) hs hfp hi hsz H fun s tn H=>?_
  refine aa7 ?_
  exists atp F (by lia) H fun s dt H=>?_
  refine aa7 ?_
  exists atW F (by lia) (by lia) H fun s f x H hx=>?_,aaL ?_
  have e2:((j:Nat):Int)+1=((j+1:Nat):Int):=by push_cast; rfl
  have e3:(N:Int) - ((j:Nat):Int) - 1=(N:Int) - ((j+1:Nat):Int):=by push_cast; exact q15
  rw[e2,e3] at H
  have hnew:RDs (f::Dt) (vvs.push x).toList (((List.range (j+1)).map (afO script first)).map pvD):=by
   rw[List.range_succ,List.map_append,List.map_append,Array.toList_push]
   exact (hd.mono fun f m=>.tail _ m).append (.cons hx .nil)
  exact⟨N - (j+1),by exact q1 ‹_› ‹_›,j+1,_,_,_,_,_,rfl,hjN,fun f m=>.tail _ (hk f m),hnew,H⟩
 ·exists ajk [_,_,_,_,_] hh H (by exact q61 ‹_› ‹_›) fun s H=>?_
  have ej:j=N:=by exact q24 ‹_› ‹_›
  rw[ej] at hd
  exact h _ _ _ _ _ _ (aa0.cut 2 (H.pick [5,6,0,1,2,3,4] 7)) hk hd
end
noncomputable def aaS:List Int→Int
 | []=>0
 | a::_=>a
noncomputable def asm:Stmt:=at' (aaa (D 17)) 0
section
variable {w:World}{A:Around}{s s0:Shared}{env:Env}{L:List Res}{fp:Addr→Prop}{gp:Nat→Prop}{v1 v2 v3 v4 v5 v6 v7 v8 v9 v10 v11 v12 v13 v14 v15 v16:Option Value}
theorem aqC {sl:Addr}{svs:List Value}{script:List Int}{Q:Flow→Shared→Prop}(F:aa8 env abc abf) (hs:s0.heap.IsList sl svs.toArray) (hfp:¬ fp sl) (hi:IntsAre svs script) (hsz:svs.length<1000000)
  (H:aa0 s (ab0 env (some (.ref sl)) v1 v2 v3 v4 v5 v6 v7 v8 v9 v10 v11 v12 v13 v14 v15 v16::aa5 w fp gp s0::L))
  (h:∀ s' t,aa0 s' (ab0 env (some (.ref sl)) (some (.int (aaS script) t)) v2 v3 v4 v5 v6 v7 v8 v9 v10 v11 v12 v13 v14 v15 v16::aa5 w fp gp s0::L)→Q .next s') :
  WP w A (exec asm env) Q s:=by
 have hk:∀ {s':Shared} {R:Res} {L:List Res},aa0 s' (R::aa5 w fp gp s0::L)→s'.heap.IsList sl svs.toArray:=fun H=>let ⟨o,ho,q⟩:=hs; ⟨o,H.oldF _ _ hfp ho,q⟩
 exists 0,ac8 ?_,anZ ?_,abP ?_,dL 0 F H rfl ?_,an5 H (hk H) hsz fun s H=>?_,0
 cases hi with
 | nil=>
  refine ifN ((by decide)) ?_
  exact aaW H fun s t H=>sL 1 F H rfl fun s H=>h _ _ H
 | cons a ta hi=>
  refine ifP ((rfl)) ?_
  exact aaw<|dL 0 F H rfl<|aaW H fun s t H=>abu (k:=0) (hk H) rfl (by decide)<|sL 1 F H rfl fun s H=>h _ _ H
end
theorem aol (x:Value):∀ (n:Nat) (acc:Array Value),List.foldl (fun x1 x2=>x1++x2) acc (List.replicate n #[x])=acc++(List.replicate n x).toArray:=by
 intro xX
 induction xX with
 | zero=>refine @fun acc=>?_; rfl
 | succ n ih=>
  refine @fun acc=>?_
  simp only[List.replicate_succ,List.foldl_cons,ih,List.replicate_succ]
  apply Array.ext'
  simp
section
variable {w:World}{A:Around}{s:Shared}{L:List Res}{R R₂:Res}
theorem atQ {l:Addr}{items:Array Value}{k:Nat}{x:Int}{u:Tok}{Q:Value→Shared→Prop}(hl:s.heap.get? l=some { cls:=.type "list",dict:=none,data:=.seq items k,slots:=#[] })
  (hlo : -(2 ^ 63:Int)≤x) (hhi:x<2 ^ 63) (hsz:items.size * x.toNat≤2 ^ 24)
  (h:Q (.ref s.heap.objs.size) { s with heap:=s.heap.push { cls:=.type "list",data:=.seq (List.foldl (fun x1 x2=>x1++x2) #[] (List.replicate (if items.isEmpty=true then 0 else x.toNat) items)) } }):WP w A (binaryOp .Mult (.ref l) (.int x u)) Q s:=
 .of (wpAny_binaryOp_repeat_ref (T := "list") (U := "int") (by decide) ⟨_,hl,rfl⟩ (fun s'=>typeIs_int s' x u) noFill_list_mul F.fills_int_mul F.slot_int_rmul repeat_list F.slot_int_index.lookup
  (call_meets F.slot_int_rmul (typeIs_int s x u) F.entry_int_rmul (F.args_int_rmul_2 _ _) (int___rmul___int_list x u l items k)
   ⟨hl,rfl,⟨_,hl,rfl⟩,call_meets F.slot_list_mul ⟨_,hl,rfl⟩ F.entry_list_mul (F.args_list_mul_2 _ _)
    (AutoListH.list___mul___list_int_3 l items k x u (by simp[Builtin.List.listFitsIndex]; lia) (by lia) (by simp[Builtin.List.listTooLong,sizeLine]; assumption))
    ⟨hl,h⟩⟩))
theorem arE {l:Addr}{y:Value}{n:Nat}{u:Tok}{Q:Value→Shared→Prop}(H:aa0 s (R::R₂::L)) (hl:s.heap.PlainList l #[y]) (hn:n≤1000)
  (h:∀ s' c,aa0 s' (R::R₂::aa2 c (List.replicate n y).toArray::L)→Q (.ref c) s'):WP w A (binaryOp .Mult (.ref l) (.int n u)) Q s:=by
 obtain⟨k,hl⟩:=hl
 have e:List.foldl (fun x1 x2=>x1++x2) #[] (List.replicate (if (#[y]:Array Value).isEmpty=true then 0 else (n:Int).toNat) #[y])=(List.replicate n y).toArray:=by
  rw[if_neg (by simp),aol]; simp
 have hsz:(#[y]:Array Value).size * ((n:Int)).toNat≤2 ^ 24:=by
  show 1 * ((n:Int)).toNat≤2 ^ 24
  lia
 refine atQ hl (by exact q39 ‹_›) (by exact q8 ‹_›) hsz ?_
 rw[e]
 exact h _ _ (H.made (R':=aa2 _ _) (.of (fun J J e=>Heap.get?_push_of_some _ e) rfl rfl ⟨_,Heap.get?_push_size _ rfl⟩ aa9 fun J z=>z))
end
noncomputable def ast:Stmt:=at' (aaa (D 17)) 7
noncomputable def aau (am:List Nat):Nat→List Int
 | 0=>[]
 | k+1=>List.replicate (am.getD k 0) ((k:Nat):Int)++aau am k
theorem IntsAre.rep {t:Tok}{x:Int}:∀ n:Nat,IntsAre (List.replicate n (.int x t)) (List.replicate n x):=by
 intro xX
 induction xX with
 | zero=>exact .nil
 | succ n ih=>exact .cons x t (ih)
theorem aeD (am:List Nat):∀ k,k≤am.length→(aau am k).length≤am.sum
 | k,h=>by
  have key:∀ k,k≤am.length→(aau am k).length=(am.take k).sum:=by
   intro k
   induction k with
   | zero=>intro _; rfl
   | succ k ih=>
    intro h
    simp only[aau,List.length_append,List.length_replicate,ih (by exact q40 ‹_›),List.take_add_one,List.sum_append,List.getD_eq_getElem?_getD,List.getElem?_eq_getElem (by assumption:k<am.length)]
    simp
    simp +arith
  rw[key k h]
  conv=>rhs; rw[← List.take_append_drop k am,List.sum_append]
  exact q48
section
variable {w:World}{A:Around}{s s0:Shared}{env:Env}{L:List Res}{v0 v1 v2 v3 v4 v5 v6 v7 v8 v9 v10 v11 v12 v13 v14 v15 v16:Option Value}{fp:Addr→Prop}{gp:Nat→Prop}
inductive ako (am:List Nat) (env:Env) (v0 v1 v2 v3 v4 v5 v8 v9 v10 v11 v12 v13 v14 v15 v16:Option Value) (w:World) (fp:Addr→Prop) (gp:Nat→Prop) (s0:Shared) (al:Addr) (av:List Value) (it rg:Addr) (t1 t2 t3:Tok) (L:List Res) (n:Nat) (s':Shared):Prop
 | mk (k:Nat) (v7:Option Value) (tl:Addr) (tv:List Value):n=am.length - k→k≤am.length→IntsAre tv (aau am k)→aa0 s' (ab0 env v0 v1 v2 v3 v4 v5 (some (.ref tl)) v7 v8 v9 v10 v11 v12 v13 v14 v15 v16::aa5 w fp gp s0::aai (env.locals+1:Nat) (some (.ref al))::aa2 al (List.toArray av)::aa2 tl (List.toArray tv)::ahS it (k:Nat) ((am.length:Int) - (k:Nat)) 1::akB rg 0 am.length 1 t1 t2 t3::L)→ako am env v0 v1 v2 v3 v4 v5 v8 v9 v10 v11 v12 v13 v14 v15 v16 w fp gp s0 al av it rg t1 t2 t3 L n s'
theorem ai1 {al tl:Addr}{av:List Value}{am:List Nat}{Q:Flow→Shared→Prop}(hh:A.handled=none) (F:aa8 env abc abf) (C:aap env .cell ["amounts"] (abT env.locals 1)) (ha:IntsAre av (am.map fun a:Nat=>(a:Int))) (h4:am.sum≤4) (hl:am.length≤10)
  (H:aa0 s (ab0 env v0 v1 v2 v3 v4 v5 (some (.ref tl)) v7 v8 v9 v10 v11 v12 v13 v14 v15 v16::aa5 w fp gp s0::aai (env.locals+1:Nat) (some (.ref al))::aa2 al (List.toArray av)::aa2 tl #[]::L))
  (h:∀ s' tl v7 tv,aa0 s' (ab0 env v0 v1 v2 v3 v4 v5 (some (.ref tl)) v7 v8 v9 v10 v11 v12 v13 v14 v15 v16::aa5 w fp gp s0::aai (env.locals+1:Nat) (some (.ref al))::aa2 al (List.toArray av)::aa2 tl (List.toArray tv)::L)→IntsAre tv (aau am am.length)→Q .next s') :
  WP w A (exec ast env) Q s:=by
 have hal:(List.toArray av).size=am.length:=by have:=ha.length; simpa using this
 refine aem ?_
 refine abo 2 9 F H ?_
 refine aa3 ?_
 refine aaj 3 2 F H ?_
 refine aa3 ?_
 refine dLC [_,_] 0 F C H ?_
 refine aa6 ?_
 refine agH H (show Heap.PlainList _ al _ from H.at [_,_,_]).isList (by exact q59 ‹_› ‹_›) fun s t H=>?_
 refine aa6 ?_
 rw[hal]
 exists aeB H fun s rg t1 t2 t3 H=>?_,aeF [] H (by lia) fun s it H=>?_
 replace H:=H.pick [0,1,4,5,6,2,3] 7
 exists abB (I:=ako am env v0 v1 v2 v3 v4 v5 v8 v9 v10 v11 v12 v13 v14 v15 v16 w fp gp s0 al av it rg t1 t2 t3 L) (fun n s' hI=>?_) _ ⟨0,v7,tl,[],rfl,Nat.zero_le _,.nil,by simp only[show (am.length:Int) - ((0:Nat):Int)=am.length by simp +arith]; exact H⟩
 obtain⟨k,v7,tl,tv,en,hk,htv,H⟩:=hI
 by_cases hkN:k<am.length
 ·exists agx [_,_,_,_,_] H (by exact q45 ‹_›) fun s tk H=>?_,0,goS 7 F H rfl fun s H=>?_,0
  have hsm:=aeD am (k+1) (by assumption)
  have e1:aau am (k+1)=List.replicate (am.getD k 0) ((k:Nat):Int)++aau am k:=rfl
  simp only[e1,List.length_append,List.length_replicate] at hsm
  obtain⟨x,hx,hxd⟩:=(RDs.ints (D:=[]) ha).get (i:=k) (y:=.int ((am.getD k 0:Nat):Int)) (by simp only[List.getElem?_map,List.getElem?_map,List.getElem?_eq_getElem hkN,List.getD_eq_getElem?_getD,List.getElem?_eq_getElem hkN]; rfl)
  obtain⟨tx,rfl⟩:=hxd.inti
  generalize am.getD k 0=a at *
  have hx2:(List.toArray av)[k]? = some (.int (a:Nat) tx):=by simpa using hx
  have htl:tv.length=(aau am k).length:=htv.length
  exists aa7 ?_,ac8 ?_,abG ?_,abG ?_
  refine ab5 ?_
  exists spL 7 F H rfl ?_,aa6 ⟨_,_,_,H,aam,fun s q H=>?_⟩
  exists aaw ?_
  refine dLC [_,_,_] 0 F C H ?_
  exists dL 7 F H rfl ?_,abu (k:=k) (show Heap.PlainList _ al _ from H.at [_,_,_,_]).isList hx2 (by exact q38 ‹_› ‹_› ‹_›) ?_
  refine arE H (show Heap.PlainList _ q _ from H.at [_,_]) (by lia) fun s c H=>?_
  exists dL 6 F H rfl ?_,aov (vs:=List.replicate a (.int (k:Nat) tk)) (ws:=tv) H (show Heap.PlainList _ c _ from H.at [_,_]).isList (show Heap.PlainList _ tl _ from H.at [_,_,_,_,_,_]).isList (by rw[List.length_replicate]; lia) fun s e H=>?_,sL 6 F H rfl fun s H=>?_,aaL ?_
  have H2:=aa0.cut 3 (H.pick [3,4,7,0,1,5,6,2,8,9] 10)
  have e2:((k:Nat):Int)+1=((k+1:Nat):Int):=by push_cast; rfl
  have e3:(am.length:Int) - ((k:Nat):Int) - 1=(am.length:Int) - ((k+1:Nat):Int):=by push_cast; exact q15
  simp only[e2,e3] at H2
  exact⟨am.length - (k+1),by exact q1 ‹_› ‹_›,k+1,_,_,_,rfl,hkN,by simp only[e1]; exact (IntsAre.rep a).append htv,H2⟩
 ·exists ajk [_,_,_,_,_] hh H (by exact q61 ‹_› ‹_›) fun s H=>?_
  have ek:k=am.length:=by exact q24 ‹_› ‹_›
  rw[ek] at htv
  exact h _ _ _ _ (aa0.cut 2 (H.pick [5,6,0,1,2,3,4] 7)) htv
end
noncomputable def arR:Stmt:=at' (aaa (D 17)) 8
section
variable {w:World}{A:Around}{s s0:Shared}{env:Env}{L:List Res}{v0 v1 v2 v3 v4 v5 v6 v7 v8 v9 v10 v11 v12 v13 v14 v15 v16:Option Value}{fp:Addr→Prop}{gp:Nat→Prop}{C1 C2:Res}
theorem aoJ {tl:Addr}{tv:List Value}{ns:List Int}{Q:Flow→Shared→Prop}(r:aah A 3 12) (F:aa8 env abc abf) (ht:IntsAre tv ns) (hn:ns.length≤100)
  (H:aa0 s (ab0 env v0 v1 v2 v3 v4 v5 (some (.ref tl)) v7 v8 v9 v10 v11 v12 v13 v14 v15 v16::aa5 w fp gp s0::C1::C2::aa2 tl (List.toArray tv)::L))
  (h:∀ s' m,aa0 s' (ab0 env v0 v1 v2 v3 v4 v5 (some (.ref tl)) v7 (some (.ref m.x)) v9 v10 v11 v12 v13 v14 v15 v16::aa5 w fp gp s0::msR m::C1::C2::aa2 tl (List.toArray tv)::L)→m.abs=bag ns→Q .next s') :
  WP w A (exec arR env) Q s:=by
 exists ac8 ?_,ahg 4 0 F H (ajS _) (ah2 _) ?_,spL 6 F H rfl ?_,aa6 ⟨H.bs,arV r H.bs (show Heap.PlainList _ tl _ from H.at [_,_,_,_]).isList ht hn fun s' m mk e=>sL 8 F (H.made mk) rfl fun s H=>h _ _ H e⟩
end
noncomputable def art:Stmt:=at' (aaa (D 17)) 9
noncomputable def arN:Stmt:=at' (aaa (D 17)) 10
noncomputable def ab4 (am:List Nat):List (Int × Int):=((List.range am.length).filter fun k:Nat=>decide (0<am.getD k 0)).map fun k:Nat=>((k:Int),((am.getD k 0:Nat):Int))
section
variable {w:World}{A:Around}{s s0:Shared}{env:Env}{L:List Res}{v0 v1 v2 v3 v4 v5 v6 v7 v8 v9 v10 v11 v12 v13 v14 v15 v16:Option Value}{fp:Addr→Prop}{gp:Nat→Prop}{C1 C2:Res}
theorem aog {m:Ms}{Q:Flow→Shared→Prop}(r:aah A 3 12) (F:aa8 env abc abf) (hn:m.rows.length<64) (nd:(m.abs.map Prod.fst).Nodup)
  (H:aa0 s (ab0 env v0 v1 v2 v3 v4 v5 v6 v7 (some (.ref m.x)) v9 v10 v11 v12 v13 v14 v15 v16::aa5 w fp gp s0::msR m::L))
  (h:∀ s' b D bvs (ps:List (Int × Int)),aa0 s' (ab0 env v0 v1 v2 v3 v4 v5 v6 v7 (some (.ref m.x)) (some (.ref b)) v10 v11 v12 v13 v14 v15 v16::aa5 w fp gp s0::fzR D::msR m::L)→⟨false,b,bvs⟩∈D→RDs D bvs.toList (ps.map pD)→ps.Perm m.abs→ps.Pairwise (fun a b=>a.1<b.1)→Q .next s') :
  WP w A (exec art env) Q s:=by
 exists 0,ac8 ?_,aaj 5 12 F H ?_,aa3 ?_,agh (r.mono (by exact lb rfl) (by exact lb rfl)) ?_,dL 8 F H rfl ⟨m,_,_,_,rfl,ahx (H.at [_,_]),by exact q65 ‹_›,H.bs,H,fun s v D H hd=>aa6 ?_⟩
 obtain⟨la,items,rfl,hla,hds⟩:=hd.lst
 exists afE (vs:=items.toList) H (by simpa using (show Heap.PlainList _ la items from aas (H.at [_,_]) _ hla).isList) hds (by rw[m.abs_length]; exact hn) nd fun s b D2 ps bvs H hk hb hbd hp hs=>?_,sL 9 F H rfl fun s H=>?_
 exact h _ _ _ _ _ H hb hbd hp hs
end
theorem adA:∀ ps:List (Int × Int),ps.length≤4→shaped (.list (ps.map pD))=true
 | [],_=>rfl
 | [_],_=>rfl
 | [_,_],_=>rfl
 | [_,_,_],_=>rfl
 | [_,_,_,_],_=>rfl
 | _::_::_::_::_::_,h=>by simp at h
section
variable {w:World}{A:Around}{s s0:Shared}{env:Env}{L:List Res}{v0 v1 v2 v3 v4 v5 v6 v7 v8 v9 v10 v11 v12 v13 v14 v15 v16:Option Value}{fp:Addr→Prop}{gp:Nat→Prop}{C1 C2:Res}
theorem apC {m:Ms}{al b:Addr}{bvs:Array Value}{av:List Value}{am:List Nat}{D:List Fz}{Q:Flow→Shared→Prop}(r:aah A 3 12) (F:aa8 env abc abf) (C:aap env .cell ["amounts"] (abT env.locals 1)) (ha:IntsAre av (am.map fun a:Nat=>(a:Int))) (hl:am.length≤3)
  (hb:⟨false,b,bvs⟩∈D) (hbd:RDs D bvs.toList ((ab4 am).map pD)) (ht:tot m.abs=(am.sum:Nat)) (h4:am.sum≤4)
  (H:aa0 s (ab0 env v0 v1 v2 v3 v4 v5 v6 v7 (some (.ref m.x)) (some (.ref b)) v10 v11 v12 v13 v14 v15 v16::aa5 w fp gp s0::fzR D::msR m::aai (env.locals+1:Nat) (some (.ref al))::aa2 al (List.toArray av)::L))
  (h:∀ s',aa0 s' (ab0 env v0 v1 v2 v3 v4 v5 v6 v7 (some (.ref m.x)) (some (.ref b)) v10 v11 v12 v13 v14 v15 v16::aa5 w fp gp s0::fzR D::msR m::aai (env.locals+1:Nat) (some (.ref al))::aa2 al (List.toArray av)::L)→Q .next s') :
  WP w A (exec arN env) Q s:=by
 have hal:(List.toArray av).size=am.length:=by have:=ha.length; simpa using this
 have hsh:shaped (.list ((ab4 am).map pD))=true:=adA _ (by
  unfold ab4
  rw[List.length_map]
  exact Nat.le_trans (List.length_filter_le ..) (by rw[List.length_range]; exact q58 ‹_›))
 have hav:∀ i,i<am.length→∃ t,(List.toArray av)[i]? = some (.int ((am.getD i 0:Nat):Int) t):=fun i hi=>by
  obtain⟨x,hx,hxd⟩:=(RDs.ints (D:=[]) ha).get (i:=i) (y:=.int ((am.getD i 0:Nat):Int)) (by simp only[List.getElem?_map,List.getElem?_map,List.getElem?_eq_getElem hi,List.getD_eq_getElem?_getD,List.getElem?_eq_getElem hi]; rfl)
  obtain⟨tx,rfl⟩:=hxd.inti
  exact⟨tx,by simpa using hx⟩
 exists 0,dIf ?_,ahQ ?_,tOr ?_,abS ?_,dL 9 F H rfl ?_,agq F C [".0", "k"] [] ?_,abo 2 9 F H ?_,aa3 ?_,aaj 3 2 F H ?_,aa3 ?_,dLC [_,_,_,_] 0 F C H ?_,aa6 ?_,agH H (show Heap.PlainList _ al _ from H.at [_,_,_,_,_]).isList (by exact q36 ‹_› ‹_›) fun s t H=>?_,aa6 ?_,aeB H fun s rg t1 t2 t3 H=>?_,aeF [] H (by lia) fun s it H=>?_
 refine⟨_,_,_,H,fun cenv acc s3 Fc Cc H=>?_⟩
 rw[hal] at H
 refine CP.mono (aq1 (L:=_) (P:=fun s'=>∃ vr D' vs,RDs D' vs.toList ((ab4 am).map pD)∧aa0 s' (aa1 cenv.locals (aal [".0", "k"] [none,vr])::ab0 env v0 v1 v2 v3 v4 v5 v6 v7 (some (.ref m.x)) (some (.ref b)) v10 v11 v12 v13 v14 v15 v16::aa5 w fp gp s0::aa2 acc vs::emp::fzR D'::akB rg 0 am.length 1 t1 t2 t3::fzR D::msR m::aai (env.locals+1:Nat) (some (.ref al))::aa2 al (List.toArray av)::L)) r.handled Fc (by lia) H (fun k:Nat=>decide (0<am.getD k 0)) (fun k:Nat=>pD ((k:Int),((am.getD k 0:Nat):Int))) (fun i t s X Y Z hi hM H=>?_) (fun i t s X Y Z hi hp hM H=>?_) (fun s' vr D' vs hd H=>⟨vr,D',vs,by unfold ab4; rw[List.map_map]; exact hd,H⟩)) ?_
 ·obtain⟨tx,hx⟩:=hav i hi
  exists abS ?_
  refine aaw ?_
  exists dLC [_,_,_,_,_,_,_,_,_] 0 Fc Cc H ?_,dL 1 Fc H rfl ?_,abu (k:=i) (show Heap.PlainList _ al _ from H.at [_,_,_,_,_,_,_,_,_,_]).isList hx (by lia) ?_,aaW H fun s t3 H=>?_,dGt ?_,tB ⟨?_,H⟩
  rw[decide_eq_decide]; simp +arith
 ·obtain⟨tx,hx⟩:=hav i hi
  exists ael ?_
  refine spL 1 Fc H rfl ?_
  exists aa3 ?_,aaw ?_,dLC [_,_,_,_,_,_,_,_,_] 0 Fc Cc H ?_,dL 1 Fc H rfl ?_,abu (k:=i) (show Heap.PlainList _ al _ from H.at [_,_,_,_,_,_,_,_,_,_]).isList hx (by lia) ?_,aa6 ⟨_,_,_,H,aam,fun s a H=>?_⟩
  exact⟨_,(aa0.fzAdd (D:=[]) [_,_,_] ⟨true,a,#[.int (i:Nat) t,.int ((am.getD i 0:Nat):Int) tx]⟩ (aa0.fzNew [_,_,_] (H.pick [0,1,3,2] 4))),.tuple (.head _) (.cons (.int _ _) (.cons (.int _ _) .nil))⟩
 ·intro f s4' ⟨vr,D',vs,hd,H⟩
  refine⟨_,_,H,fun s5 H=>?_⟩
  have H2:=aa0.fzAdd [_,_] ⟨false,acc,vs⟩ (H.pick [0,1,4,2,3,5,6,7,8,9] 10)
  exists atr (r.mono (by exact lb rfl) (by exact lb rfl)) (aas (H2.at (R:=fzR D) [_,_,_,_,_])) (aas (H2.at [_,_])) (.list hb hbd) (.list (.head _) (hd.mono fun f m=>.tail _ m)) hsh hsh ?_,tB ?_
  rw[eqv_refl _ (by simp only[shaped,Bool.and_eq_true] at hsh; exact hsh.1)]
  refine ifN ((by decide)) ?_
  exists tOr ?_,abS ?_
  refine aaj 3 2 F H ?_
  exists spL 8 F H rfl ?_,aa6 ?_
  refine ajQ (r.mono (by exact lb rfl) (by exact lb rfl)) H (ahx (H2.at [_,_,_,_,_,_])) (by rw[ht]; lia) fun s t H=>?_
  refine aa0.lt H ?_; intro T' H
  exists aaj 1 10 F H ?_
  refine aa3 ?_
  exists dLC [_,_,_,_,_,_,_,_] 0 F C H ?_,aa6 ?_,ari r.handled H (show Heap.PlainList _ al _ from H.at [_,_,_,_,_,_,_,_,_]).isList ha fun s t H=>?_,dNe ?_,tB ?_
  rw[ahu,ht,if_neg (by simp)]
  exists amF ?_
  refine ifN ((by decide)) ?_
  exists aaL ?_
  refine h _ ?_
  exact aa0.cut 4 (H.pick [2,3,4,5,0,1,6,7,8,9] 10) ⟨fun J z=>z,fun J z=>z,abp _,fun J z=>z,trivial⟩
end
noncomputable def asK:Stmt:=at' (aaa (D 17)) 5
noncomputable def adR (first:Int) (vars:List aaJ):List aaJ:=if (first.fdiv 3).fmod 3=0 then vars.set (vars.length - 1) ⟨none,1,(vars.getD (vars.length - 1) pv0).least,none⟩ else vars
theorem RDs.set {D:List Fz}{x:Value}{y:PyData}(h:RD D x y):∀ {i:Nat}{v:List Value}{d:List PyData},RDs D v d→RDs D (v.set i x) (d.set i y)
 | _,_,_,.nil=>.nil
 | 0,_,_,.cons _ b=>.cons h b
 | i+1,_,_,.cons a b=>.cons a (RDs.set h (i:=i) b)
section
variable {w:World}{A:Around}{s s0:Shared}{env:Env}{L:List Res}{v0 v1 v2 v3 v4 v5 v6 v7 v8 v9 v10 v11 v12 v13 v14 v15 v16:Option Value}{fp:Addr→Prop}{gp:Nat→Prop}{C1 C2:Res}
theorem ani {l:Addr}{items:Array Value}{t:Tok}{v:Value}{Q:Unit→Shared→Prop}(hl0:s.heap.PlainList l items) (hn:0<items.size)
  (hQ:∀ h',h'.PlainList l (items.setIfInBounds (items.size - 1) v)→Heap.SameBut l s.heap h'→Q () { s with heap:=h' }):WP w A (setItem (.ref l) (.int (-1) t) v) Q s:=by
 have hl:=hl0.isList
 obtain⟨o,ho,hc,ne,hd⟩:=id hl
 refine .of ?_
 refine wpAny_holding ?_
 refine wpAny_bind (wpAny_sequenceKey hl.typeIs (by decide) ?_)
 refine wpAny_bind (wpAny_callSpecial?_slot (name:=Str.ofString "__setitem__") hl.typeIs slot_list_setitem (wpAny_call_entry slot_list_setitem hl.typeIs entry_list_setitem ?_ (args_list_setitem _ _ _)))
 show wpAny _ _ (Builtin.List.listSubscript? (.int (-1) t) >>= _) _ _ s
 refine wpAny_bind (wpAny_listSubscript_int (fitsIndex_neg (by decide) (by decide)) ?_)
 have hidx:=seqIndex_neg (k:=-1) (n:=items.size) (by decide) (by lia)
 show wpAny _ _ ((Builtin.List.listItems (.ref l) >>= fun xs=>pure ((seqIndex? (Int.negSucc 0) xs.size).bind fun i=>xs[i]?.map (i,·))) >>= _) _ _ s
 refine wpAny_bind (wpAny_bind ?_)
 refine wpAny_bind (wpAny_seqItems ho hd (wpAny_pure (wpAny_pure ?_)))
 have e:((-1:Int)+items.size).toNat=items.size - 1:=by lia
 rw[e] at hidx
 have hj:items.size - 1<items.size:=by grind
 have hx:items[items.size - 1]? = some items[items.size - 1]:=Array.getElem?_eq_getElem hj
 rw[show (Int.negSucc 0)=(-1:Int) from rfl,hidx]
 simp only[Option.bind_some,hx,Option.map_some]
 show wpAny _ _ (setSeqItemAt l (items.size - 1) v >>= _) _ _ s
 obtain⟨n',hd'⟩:=Obj.data_mapSeq hd (·.setIfInBounds (items.size - 1) v)
 have hfin:(s.heap.update l (Obj.mapSeq (·.setIfInBounds (items.size - 1) v))).PlainList l (items.setIfInBounds (items.size - 1) v):=by
  obtain⟨n0,e0⟩:=hl0
  rw[e0] at ho
  cases ho
  exact⟨_,(Heap.get?_update_self _ e0 (Obj.isFreed_of_seq hd')).trans rfl⟩
 refine wpAny_bind (wpAny_setSeqItemAt ho hd ?_)
 first
  | exact wpAny_bind (wpAny_pure (wpAny_pure ⟨.none,rfl,wpAny_pure (hQ _ hfin (Heap.SameBut.update ..))⟩))
  | exact wpAny_pure ⟨.none,rfl,wpAny_pure (hQ _ hfin (Heap.SameBut.update ..))⟩
theorem asd {value slice:Expr}{l:Addr}{items:Array Value}{t:Tok}{x:Value}{Q:Value→Shared→Prop}(hl:s.heap.IsList l items) (hx:items[items.size - 1]? = some x) (h:Q x s)
  (hs:subscripted slice false (.ref l) (.int (-1) t)=operate [.ref l,.int (-1) t] (getItem (.ref l) (.int (-1) t)):=by with_unfolding_all rfl):WP w A (subscriptTail value slice (.ref l) (.int (-1) t)) Q s:=by
 have hn:0<items.size:=by have:=(Array.getElem?_eq_some_iff.mp hx).1; lia
 exact .of (tail_any hl.typeIs slot_list_getitem.lookup (wpAny_getItem_list_neg hl (by decide) (by lia) (by decide) (by rw[show ((-1:Int)+items.size).toNat=items.size - 1 by lia]; exact hx) h) hs)
theorem aru {vl:Addr}{vvs:Array Value}{first:Int}{tf:Tok}{vars:List aaJ}{D:List Fz}{Q:Flow→Shared→Prop}(F:aa8 env abc abf) (hd:RDs D vvs.toList (vars.map pvD)) (hn:0<vars.length) (h3:vars.length≤3)
  (H:aa0 s (ab0 env v0 (some (.int first tf)) v2 (some (.ref vl)) v4 v5 v6 v7 v8 v9 v10 v11 v12 v13 v14 v15 v16::aa5 w fp gp s0::C1::fzR D::aa2 vl vvs::L))
  (h:∀ s' D' vvs',aa0 s' (ab0 env v0 (some (.int first tf)) v2 (some (.ref vl)) v4 v5 v6 v7 v8 v9 v10 v11 v12 v13 v14 v15 v16::aa5 w fp gp s0::C1::fzR D'::aa2 vl vvs'::L)→(∀ f∈D,f∈D')→RDs D' vvs'.toList ((adR first vars).map pvD)→Q .next s') :
  WP w A (exec asK env) Q s:=by
 have hsz:vvs.size=vars.length:=by have:=hd.length; simpa using this
 exists 0,dIf ?_,abS ?_,abG ?_,abG ?_,dL 1 F H rfl ?_,aaW H fun s t H=>?_,0,aiI H (by decide) (by decide) fun s t H=>?_,aaW H fun s t H=>?_,akE H (by decide) fun s t H=>?_,aaW H fun s t H=>?_,tEq ?_
 by_cases h0:(first.fdiv 3).fmod 3=0
 ·refine ifP ((by simpa using h0)) ?_
  obtain⟨xv,hxv,hxvd⟩:=hd.get (i:=vars.length - 1) (y:=pvD (vars.getD (vars.length - 1) pv0)) (by rw[List.getElem?_map,List.getD_eq_getElem?_getD,List.getElem?_eq_getElem (by lia)]; rfl)
  obtain⟨T,nv,ct,mt,dv,rfl,hT,hnv,hdv⟩:=agA hxvd
  exists aa7 ?_,adm ?_,ael ?_,aa3 ?_,ad5 ?_
  refine aa3 ?_
  exists aaW H fun s t1 H=>?_,aa3 ?_,aaw ?_
  refine aaw ?_
  exists dL 3 F H rfl ?_
  refine dUn ?_
  exists aaW H fun s t2 H=>?_,aqM H fun s t3 H=>?_
  have hvl:s.heap.IsList vl vvs:=(show Heap.PlainList _ vl _ from H.at [_,_,_,_]).isList
  exists asd hvl (x:=.ref T) (by rw[hsz]; simpa using hxv) ?_,aaW H fun s t4 H=>?_,adp (show Heap.IsTuple _ T _ from aas (H.at [_,_,_]) _ hT) rfl (by decide) ?_
  refine aa3 ?_
  exists ad5 ?_
  refine aa6 ⟨_,_,_,H,aam,fun s a H=>?_⟩
  exists 0,dL 3 F H rfl ?_,dUn ?_,aaW H fun s t5 H=>?_,0,aqM H fun s t6 H=>?_
  refine ani (show Heap.PlainList _ vl _ from (aa0.fzAdd [_,_,_] ⟨true,a,#[.none,.int 1 t1,.int (vars.getD (vars.length - 1) pv0).least mt,.none]⟩ (H.pick [0,1,3,4,2,5] 6)).at [_,_,_,_]) (by exact q29 ‹_› ‹_›) fun h' hl' hs=>?_
  exists aaL ?_
  refine h _ (⟨true,a,#[.none,.int 1 t1,.int (vars.getD (vars.length - 1) pv0).least mt,.none]⟩::D) _ (aa0.updAt [_,_,_,_] (aa0.fzAdd [_,_,_] ⟨true,a,#[.none,.int 1 t1,.int (vars.getD (vars.length - 1) pv0).least mt,.none]⟩ (H.pick [0,1,3,4,2,5] 6)) (aaB (R:=aa2 vl vvs) (R':=aa2 vl (vvs.setIfInBounds (vvs.size - 1) (.ref a))) hs s.toks rfl rfl rfl rfl hl')) (fun f m=>.tail _ m) ?_
  unfold adR
  rw[if_pos h0,List.map_set,hsz,Array.toList_setIfInBounds]
  exact RDs.set (.tuple (.head _) (.cons .none (.cons (.int _ _) (.cons (.int _ _) (.cons .none .nil))))) (hd.mono fun f m=>.tail _ m)
 ·refine ifN ((by simpa using h0)) ?_
  exists aaL ?_
  refine h _ _ _ H (fun J m=>m) ?_
  unfold adR
  rw[if_neg h0]
  exact hd
end
noncomputable def arw:Stmt:=at' (aaa (D 17)) 11
noncomputable def arG:Stmt:=at' (aaa (D 17)) 12
noncomputable def VI.pv (v:VI):aaJ:=⟨v.name,v.count,v.min,v.dflt⟩
section
variable {w:World}{A:Around}{s s0:Shared}{env:Env}{L:List Res}{v0 v1 v2 v3 v4 v5 v6 v7 v8 v9 v10 v11 v12 v13 v14 v15 v16:Option Value}{fp:Addr→Prop}{gp:Nat→Prop}{C1 C2:Res}
inductive amr (vars:List aaJ) (cenv env:Env) (v0 v1 v2:Option Value) (vl:Addr) (v4 v5 v6 v7 v8 v9 v10 v11 v12 v13 v14 v15 v16:Option Value) (w:World) (fp:Addr→Prop) (gp:Nat→Prop) (s0:Shared) (acc it:Addr) (D:List Fz) (L:List Res) (n:Nat) (s':Shared):Prop
 | mk (i:Nat) (vr:Option Value) (vs:List VI):n=vars.length - i→i≤vars.length→vs.map VI.pv=vars.take i→aa0 s' (aa1 cenv.locals (aal [".0", "one"] [none,vr])::ab0 env v0 v1 v2 (some (.ref vl)) v4 v5 v6 v7 v8 v9 v10 v11 v12 v13 v14 v15 v16::aa5 w fp gp s0::aa2 acc (acl vs)::abx it vl i::fzR D::aae (vs.map VI.R)::L)→amr vars cenv env v0 v1 v2 vl v4 v5 v6 v7 v8 v9 v10 v11 v12 v13 v14 v15 v16 w fp gp s0 acc it D L n s'
inductive amQ (vars:List aaJ) (cenv env:Env) (v0 v1 v2:Option Value) (vl:Addr) (v4 v5 v6 v7 v8 v9 v10 v11 v12 v13 v14 v15 v16:Option Value) (w:World) (fp:Addr→Prop) (gp:Nat→Prop) (s0:Shared) (acc:Addr) (D:List Fz) (L:List Res) (s':Shared):Prop
 | mk (m vs):vs.map VI.pv=vars→aa0 s' (aa1 cenv.locals m::ab0 env v0 v1 v2 (some (.ref vl)) v4 v5 v6 v7 v8 v9 v10 v11 v12 v13 v14 v15 v16::aa5 w fp gp s0::aaQ acc vs::fzR D::L)→amQ vars cenv env v0 v1 v2 vl v4 v5 v6 v7 v8 v9 v10 v11 v12 v13 v14 v15 v16 w fp gp s0 acc D L s'
theorem apJ {vl:Addr}{vvs:Array Value}{vars:List aaJ}{D:List Fz}{Q:Flow→Shared→Prop}(r:aah A 4 20) (F:aa8 env abc abf) (hvl:⟨false,vl,vvs⟩∈D) (hd:RDs D vvs.toList (vars.map pvD)) (h3:vars.length≤3)
  (H:aa0 s (ab0 env v0 v1 v2 (some (.ref vl)) v4 v5 v6 v7 v8 v9 v10 v11 v12 v13 v14 v15 v16::aa5 w fp gp s0::fzR D::L))
  (h:∀ s' lv vs,aa0 s' (ab0 env v0 v1 v2 (some (.ref vl)) v4 v5 v6 v7 v8 v9 (some (.ref lv)) v11 v12 v13 v14 v15 v16::aa5 w fp gp s0::aaQ lv vs::fzR D::L)→vs.map VI.pv=vars→Q .next s') :
  WP w A (exec arw env) Q s:=by
 have hsz:vvs.size=vars.length:=by have:=hd.length; simpa using this
 have hlist:∀ {s:Shared},(fzR D).P s→s.heap.IsList vl vvs:=fun {s} h=>(show s.heap.PlainList vl vvs from aas h _ hvl).isList
 exists 0,ahj (csC:=[]) (asC:=[]) 10 F aap.nil [".0", "one"] ["VariableWithCount"] ?_,dL 3 F H rfl ?_,aaM (hlist (H.at [_,_])) H fun s it H=>?_
 refine⟨_,_,_,H,fun cenv acc s3 Fc Cc H=>?_⟩
 have H2:=(aa0.sep (L:=[])).mpr H
 refine abj [_,_,_,_] (H2.pick [1,2,3,4,5,6,0] 7) ?_
 refine CP.mono (abb (amr vars cenv env v0 v1 v2 vl v4 v5 v6 v7 v8 v9 v10 v11 v12 v13 v14 v15 v16 w fp gp s0 acc it D L) (amQ vars cenv env v0 v1 v2 vl v4 v5 v6 v7 v8 v9 v10 v11 v12 v13 v14 v15 v16 w fp gp s0 acc D L) (fun n s' hI=>?_) _ ⟨0,none,[],rfl,Nat.zero_le _,rfl,(H2.pick [1,2,3,4,5,6,0] 7)⟩) fun f s4' hJ=>?_
 ·obtain⟨i,vr,vs,en,hi,hv,H⟩:=hI
  cases hr:vars[i]? with
  | none=>
   have hlen:=List.getElem?_eq_none_iff.mp hr
   exists abF [_,_,_,_] r.handled H (hlist (H.at [_,_,_,_,_])) (by rw[Array.getElem?_eq_none_iff]; exact q11 ‹_› ‹_› ‹_›) fun s₂ H=>?_
   rw[List.take_of_length_le hlen] at hv
   refine⟨aal [".0", "one"] [none,vr],vs,hv,?_⟩
   exact aa0.cut 1 (((aa0.sep (L:=[aa2 acc (acl vs),aae (vs.map VI.R)])).mpr (H.pick [3,6,0,1,2,4,5] 7)).pick [4,1,2,3,0,5] 6)
  | some p=>
   have hlt:=(List.getElem?_eq_some_iff.mp hr).1
   obtain⟨x,hx,hxd⟩:=hd.get (i:=i) (y:=pvD p) (by rw[List.getElem?_map,hr]; rfl)
   obtain⟨T,nv,ct,mt,dv,rfl,hT,hnv,hdv⟩:=agA hxd
   obtain⟨nt,rfl⟩:=apS hnv
   obtain⟨dt,rfl⟩:=apS hdv
   have hvl:vs.length=i:=by
    have:=congrArg List.length hv
    simp only[List.length_map,List.length_take] at this
    lia
   have htT:∀ {s:Shared},(fzR D).P s→s.heap.IsTuple T #[acb p.name nt,.int p.count ct,.int p.least mt,acb p.dflt dt]:=fun h=>aas h _ hT
   exists aaN [_,_,_,_] H (hlist (H.at [_,_,_,_,_])) (by simpa using hx) fun s₂ H=>?_,0,goS 1 Fc H rfl fun s₂ H=>?_
   show WP w A (eval _ cenv) _ s₂
   exists ahg 0 2 Fc (H.pick [0,2,1] 3) (anb _) (anM _) ?_,aa3 ?_,aeh 1 Fc H rfl fun s t1 H=>?_,adp (htT (H.at [_,_,_,_,_])) rfl (by decide) ?_,aa3 ?_,aeh 1 Fc H rfl fun s t1 H=>?_,adp (htT (H.at [_,_,_,_,_])) rfl (by decide) ?_,aa3 ?_,aeh 1 Fc H rfl fun s t1 H=>?_,adp (htT (H.at [_,_,_,_,_])) rfl (by decide) ?_,aa3 ?_,aeh 1 Fc H rfl fun s t1 H=>?_
   refine adp (htT (H.at [_,_,_,_,_])) rfl (by decide) ?_
   exists aa6 ⟨(H.pick [0,2,1] 3).bs,?_⟩
   refine ars r (H.pick [0,2,1] 3).bs fun s v dx mk=>?_
   replace H:=H.add mk
   exists abE [_,_,_] (aa0.mapNew (f:=VI.R) (l:=vs) (x:=⟨v,dx,p.name,nt,p.count,ct,p.least,mt,p.dflt,dt⟩) [_,_,_,_,_,_] (H.pick [1,2,3,4,5,6,7,0] 8)) (by unfold acl; simp; lia) fun s₂ H=>?_
   refine⟨vars.length - (i+1),by exact q1 ‹_› ‹_›,i+1,some (.ref T),vs++[⟨v,dx,p.name,nt,p.count,ct,p.least,mt,p.dflt,dt⟩],rfl,hlt,?_,?_⟩
   ·simp only[List.map_append,hv,List.take_add_one,hr]; rfl
   ·have e:acl (vs++[⟨v,dx,p.name,nt,p.count,ct,p.least,mt,p.dflt,dt⟩])=(acl vs).push (.ref v):=by unfold acl; simp
    simp only[e]
    exact H
 ·obtain⟨_,m,vs,hv,H⟩:=hJ
  refine⟨_,_,H,sL 10 F (H.front [_]) rfl fun s5 H5=>⟨_,_,H5.front [_],fun s7 H=>h _ _ _ H hv⟩⟩
end
noncomputable def aaE (vars:List aaJ):List Str:=vars.filterMap (·.name)
section
variable {w:World}{A:Around}{s s0:Shared}{env:Env}{L:List Res}{v0 v1 v2 v3 v4 v5 v6 v7 v8 v9 v10 v11 v12 v13 v14 v15 v16:Option Value}{fp:Addr→Prop}{gp:Nat→Prop}{C1 C2:Res}
inductive amT (vars:List aaJ) (D:List Fz) (cenv env:Env) (v0 v1 v2:Option Value) (vl:Addr) (v4 v5 v6 v7 v8 v9 v10 v11 v12 v13 v14 v15 v16:Option Value) (w:World) (fp:Addr→Prop) (gp:Nat→Prop) (s0:Shared) (acc it:Addr) (L:List Res) (n:Nat) (s':Shared):Prop
 | mk (i vr xs):n=vars.length - i→RDs D xs.toList ((aaE (vars.take i)).map .str)→xs.size≤i→i≤vars.length→aa0 s' (aa1 cenv.locals (aal [".0", "one"] [none,vr])::ab0 env v0 v1 v2 (some (.ref vl)) v4 v5 v6 v7 v8 v9 v10 v11 v12 v13 v14 v15 v16::aa5 w fp gp s0::aa2 acc xs::abx it vl i::fzR D::L)→amT vars D cenv env v0 v1 v2 vl v4 v5 v6 v7 v8 v9 v10 v11 v12 v13 v14 v15 v16 w fp gp s0 acc it L n s'
inductive amP (D:List Fz) (vars:List aaJ) (cenv env:Env) (v0 v1 v2:Option Value) (vl:Addr) (v4 v5 v6 v7 v8 v9 v10 v11 v12 v13 v14 v15 v16:Option Value) (w:World) (fp:Addr→Prop) (gp:Nat→Prop) (s0:Shared) (acc:Addr) (L:List Res) (s':Shared):Prop
 | mk (m xs):RDs D xs.toList ((aaE vars).map .str)→aa0 s' (aa1 cenv.locals m::ab0 env v0 v1 v2 (some (.ref vl)) v4 v5 v6 v7 v8 v9 v10 v11 v12 v13 v14 v15 v16::aa5 w fp gp s0::fzR (⟨false,acc,xs⟩::D)::L)→amP D vars cenv env v0 v1 v2 vl v4 v5 v6 v7 v8 v9 v10 v11 v12 v13 v14 v15 v16 w fp gp s0 acc L s'
theorem aqg {vl:Addr}{vvs:Array Value}{vars:List aaJ}{D:List Fz}{Q:Flow→Shared→Prop}(r:aah A 4 20) (F:aa8 env abc abf) (hvl:⟨false,vl,vvs⟩∈D) (hd:RDs D vvs.toList (vars.map pvD)) (h3:vars.length≤3)
  (H:aa0 s (ab0 env v0 v1 v2 (some (.ref vl)) v4 v5 v6 v7 v8 v9 v10 v11 v12 v13 v14 v15 v16::aa5 w fp gp s0::fzR D::L))
  (h:∀ s' nl nvs,aa0 s' (ab0 env v0 v1 v2 (some (.ref vl)) v4 v5 v6 v7 v8 v9 v10 (some (.ref nl)) v12 v13 v14 v15 v16::aa5 w fp gp s0::fzR (⟨false,nl,nvs⟩::D)::L)→RDs D nvs.toList ((aaE vars).map .str)→Q .next s') :
  WP w A (exec arG env) Q s:=by
 have hsz:vvs.size=vars.length:=by have:=hd.length; simpa using this
 have hlist:∀ {s:Shared},(fzR D).P s→s.heap.IsList vl vvs:=fun {s} h=>(show s.heap.PlainList vl vvs from aas h _ hvl).isList
 exists 0,ahj (csC:=[]) (asC:=[]) 11 F aap.nil [".0", "one"] [] ?_,dL 3 F H rfl ?_,aaM (hlist (H.at [_,_])) H fun s it H=>?_
 refine⟨_,_,_,H,fun cenv acc s3 Fc Cc H=>?_⟩
 refine abj [_,_,_,_] H ?_
 refine CP.mono (abb (amT vars D cenv env v0 v1 v2 vl v4 v5 v6 v7 v8 v9 v10 v11 v12 v13 v14 v15 v16 w fp gp s0 acc it L) (amP D vars cenv env v0 v1 v2 vl v4 v5 v6 v7 v8 v9 v10 v11 v12 v13 v14 v15 v16 w fp gp s0 acc L) (fun n s' hI=>?_) _ ⟨0,none,#[],rfl,.nil,Nat.le_refl _,Nat.zero_le _,H⟩) fun f s4' hP=>?_
 ·obtain⟨i,vr,xs,en,hv,hz,hi,H⟩:=hI
  cases hr:vars[i]? with
  | none=>
   have hlen:=List.getElem?_eq_none_iff.mp hr
   exists abF [_,_,_,_] r.handled H (hlist (H.at [_,_,_,_,_])) (o2 hsz hlen) fun s₂ H=>?_
   rw[List.take_of_length_le hlen] at hv
   exact⟨_,_,hv,aa0.cut 1 ((aa0.fzAdd [_,_,_] ⟨false,acc,xs⟩ (H.pick [0,1,2,5,3,4] 6)).pick [4,0,1,2,3] 5)⟩
  | some p=>
   have hlt:=(List.getElem?_eq_some_iff.mp hr).1
   obtain⟨x,hx,hxd⟩:=hd.get (i:=i) (y:=pvD p) (by rw[List.getElem?_map,hr]; rfl)
   obtain⟨T,nv,ct,mt,dv,rfl,hT,hnv,hdv⟩:=agA hxd
   obtain⟨nt,rfl⟩:=apS hnv
   have htT:∀ {s:Shared},(fzR D).P s→s.heap.IsTuple T #[acb p.name nt,.int p.count ct,.int p.least mt,dv]:=fun h=>aas h _ hT
   clear hxd hdv hnv
   have enx:aaE (vars.take (i+1))=aaE (vars.take i)++aaE [p]:=by unfold aaE; simp only[List.take_add_one,hr,List.filterMap_append]; rfl
   exists aaN [_,_,_,_] H (hlist (H.at [_,_,_,_,_])) (by simpa using hx) fun s₂ H=>?_,0,goS 1 Fc H rfl fun s₂ H=>?_
   show WP w A (isTrue _ cenv (eval _ cenv)) _ s₂
   exists abS ?_,aeh 1 Fc H rfl fun s t1 H=>?_
   refine adp (htT (H.at [_,_,_,_,_])) rfl (by decide) ?_
   exists ad5 ?_,aeM ?_,tB ?_
   cases hnm:p.name with
   | none=>
    refine ifN ((by decide)) ?_
    refine⟨_,o1 en hlt,i+1,_,xs,rfl,?_,Nat.le_succ_of_le hz,hlt,H⟩
    rw[enx]
    simpa [aaE,hnm] using hv
   | some nm=>
    refine ifP ((by rfl)) ?_
    exists aeh 1 Fc H rfl fun s t1 H=>?_,adp (htT (H.at [_,_,_,_,_])) rfl (by decide) ?_,abE [_,_,_] H (by lia) fun s₂ H=>?_
    refine⟨_,o1 en hlt,i+1,_,_,rfl,?_,by rw[Array.size_push]; exact q17 ‹_›,hlt,H⟩
    rw[enx,Array.toList_push,List.map_append,hnm]
    have e:(aaE [p]).map PyData.str=[.str nm]:=by simp[aaE,hnm]
    simp only[e]
    exact hv.append (.cons (.str _ _) .nil)
 ·obtain⟨_,m,xs,hv,H⟩:=hP
  exact⟨_,_,H,sL 11 F (H.front [_]) rfl fun s5 H5=>⟨_,_,H5.front [_],fun s7 H=>h _ _ _ H hv⟩⟩
end
structure atT (P:Params):Prop where
 hg:plainGet (K P) 178 "__class__" = true
 hd:hasDictIn (K P) 178=true
 ha:findIn (K P) (.ref 178) "__class__" = some (some (.builtin "object.__class__"))
 hn:specialIn (K P) (.builtin "object.__class__") "__get__" = some (some (.builtin "getset_descriptor.__get__"))
 ht:takesIn (K P) (.builtin "object.__class__")=some true
 hm:mroIn (K P) 178 (.type "object")=some true
 s:kitOne (K P) (.ref 178) (.type "str")=some false
 m:kitOne (K P) (.ref 178) (.ref 178)=some true
 ss:kitOne (K P) (.type "str") (.type "str")=some true
theorem akD (P:Params):atT P:=⟨by kernel_rfl,by kernel_rfl,by kernel_rfl,by kernel_rfl,by kernel_rfl,by kernel_rfl,by kernel_rfl,by kernel_rfl,by kernel_rfl⟩
noncomputable def alH:List Stmt:=adU (at' (aaa (D 17)) 14)
noncomputable def aou:List Stmt:=adU (at' alH 2)
noncomputable def afT:afY→PyData
 | .dft d=>.list [.tuple [.int (-1),.str d]]
 | .ms cs=>.list (((List.range 4).filter fun k:Nat=>decide (0<cs.getD k 0)).map fun k:Nat=>pD ((k:Int),cs.getD k 0))
section
variable {w:World}{A:Around}{s s0:Shared}{env:Env}{L:List Res}{fp:Addr→Prop}{gp:Nat→Prop}
theorem aso {m:Ms}{c:Value}{b:Bool}{Q:Value→Shared→Prop}(B:Bs w s.heap) (hm:afS m s.heap) (e:kitOne (K w.params) (.ref 178) c=some b) (H:aa0 s L) (h:∀ s',aa0 s' L→Q (.bool b) s'):WP w A (call (.builtin "isinstance") [.ref m.x,c]) Q s:=by
 obtain⟨od,I⟩:=ahl hm
 exact .of (kia_one (kitx_own (akD _).hg (akD _).hd (akD _).ha (akD _).hn (akD _).ht (akD _).hm) B.frag I e (fun x=>by cases x) fun tk=>h _ (H.keep (aab _)))
theorem isStr {x:Str}{t:Tok}{Q:Value→Shared→Prop}(B:Bs w s.heap) (H:aa0 s L) (h:∀ s',aa0 s' L→Q (.bool true) s'):WP w A (call (.builtin "isinstance") [.str x t,.type "str"]) Q s:=
 .of (kia_one kitx_str B.frag trivial (akD _).ss (fun x=>by cases x) fun tk=>h _ (H.keep (aab _)))
end
theorem adf:∀ {l m:List (Int × Int)},l.Pairwise (fun a b=>a.1<b.1)→m.Pairwise (fun a b=>a.1<b.1)→(∀ x,x∈l↔x∈m)→l=m
 | [],[],_,_,_=>rfl
 | [],b::m,_,_,h=>absurd ((h b).mpr (.head _)) (by simp)
 | a::l,[],_,_,h=>absurd ((h a).mp (.head _)) (by simp)
 | a::l,b::m,hl',hm',h=>by
  obtain⟨hla,hl⟩:=List.pairwise_cons.mp hl'
  obtain⟨hmb,hm⟩:=List.pairwise_cons.mp hm'
  clear hl' hm'
  have e:a=b:=by
   rcases List.mem_cons.mp ((h a).mp (.head _)) with e | e
   ·exact e
   ·rcases List.mem_cons.mp ((h b).mpr (.head _)) with e2 | e2
    ·exact e2.symm
    ·have:=hmb a e; have:=hla b e2; lia
  subst e
  refine congrArg _ (adf hl hm fun x=>⟨fun hx=>?_,fun hx=>?_⟩)
  ·rcases List.mem_cons.mp ((h x).mp (.tail _ hx)) with rfl | e
   ·have:=hla x hx; lia
   ·exact e
  ·rcases List.mem_cons.mp ((h x).mpr (.tail _ hx)) with rfl | e
   ·have:=hmb x hx; lia
   ·exact e
noncomputable def agl (cs:List Int):List (Int × Int):=((List.range 4).filter fun k:Nat=>decide (0<cs.getD k 0)).map fun k:Nat=>((k:Int),cs.getD k 0)
theorem aku:∀ {l:List (Int × Int)},(l.map Prod.fst).Nodup→∀ {p:Int × Int},p∈l→cnt l p.1=p.2
 | q::l,nd,p,h=>by
  rw[List.map_cons,List.nodup_cons] at nd
  unfold cnt
  rcases List.mem_cons.mp h with rfl | h
  ·rw[if_pos rfl]
  ·rw[if_neg (fun e=>nd.1 (by rw[e]; exact List.mem_map_of_mem h))]
   exact aku nd.2 h
theorem ao4:∀ {l:List (Int × Int)}{k:Int},0<cnt l k→(k,cnt l k)∈l:=by
 intro xX
 induction xX with
 | nil=>refine @fun k h=>?_; simp[cnt] at h
 | cons q l ih=>
  refine @fun k h=>?_
  unfold cnt at h ⊢
  by_cases e:q.1=k
  ·rw[if_pos e,← e]; exact .head _
  ·rw[if_neg e] at h ⊢; exact .tail _ (ih h)
theorem afg (l:List (Int × Int)):∀ k:Nat,k<4→(aeu l).getD k 0=cnt l k
 | 0,_=>rfl
 | 1,_=>rfl
 | 2,_=>rfl
 | 3,_=>rfl
 | k+4,h=>absurd h (by lia)
theorem ag6 {l ps:List (Int × Int)}(h:aco l) (hp:ps.Perm l) (hs:ps.Pairwise fun a b=>a.1<b.1):ps=agl (aeu l):=by
 refine adf hs ?_ fun x=>?_
 ·unfold agl
  rw[List.pairwise_map]
  refine List.Pairwise.filter _ ?_
  exact List.pairwise_lt_range.imp fun h=>by simpa using h
 ·rw[hp.mem_iff]
  unfold agl
  simp only[List.mem_map,List.mem_filter,List.mem_range,decide_eq_true_eq]
  constructor
  ·intro hx
   obtain⟨h0,h4⟩:=h.ks x hx
   have e:=aku h.nd hx
   refine⟨x.1.toNat,⟨by lia,?_⟩,?_⟩
   ·rw[afg _ _ (by lia),Int.toNat_of_nonneg h0,e]; exact h.pos x hx
   ·rw[afg _ _ (by lia),Int.toNat_of_nonneg h0,e]
  ·rintro ⟨k,⟨hk,hc⟩,rfl⟩
   rw[afg _ _ hk] at hc ⊢
   exact ao4 hc
theorem ali (cs:List Int):afT (.ms cs)=.list ((agl cs).map pD):=by
 unfold afT agl
 rw[List.map_map]; rfl
section
variable {w:World}{A:Around}{s s0:Shared}{env:Env}{L:List Res}{v0 v1 v2 v3 v4 v5 v6 v7 v8 v9 v10 v11 v12 v13 v14 v15 v16:Option Value}{fp:Addr→Prop}{gp:Nat→Prop}{R':Res}
theorem aqJ {d:Addr}{kvs:List (Option Str × Value)}{n:Str}{tn:Tok}{g:afY}{val:Value}{mv:Ms}{Q:Flow→Shared→Prop}(r:aah A 3 12) (F:aa8 env abc abf) (hval:valueAt kvs (some n)=some val) (hg:∀ s₁:Shared,R'.P s₁→(msR mv).P s₁→ace s₁.heap g val)
  (H:aa0 s (ab0 env v0 v1 v2 v3 v4 v5 v6 v7 v8 v9 v10 v11 v12 (some (.ref d)) v14 (some (.str n tn)) v16::aa5 w fp gp s0::ab7 w d kvs::R'::msR mv::L))
  (h:∀ s',aa0 s' (ab0 env v0 v1 v2 v3 v4 v5 v6 v7 v8 v9 v10 v11 v12 (some (.ref d)) v14 (some (.str n tn)) (some val)::aa5 w fp gp s0::ab7 w d kvs::R'::msR mv::L)→WP w A (execs (aou.drop 2) env) Q s') :
  WP w A (execs aou env) Q s:=by
 exists 0,aa7 ?_,ac8 ?_,aaw ?_,dL 13 F H rfl ?_,dL 15 F H rfl ?_,ao9 (H.at [_,_]) (k:=some n) (key:=.str n tn) (ad8 (some n) tn) hval ?_ (by with_unfolding_all rfl)
 replace H:=H.keep (aab (s.toks+1))
 exists sL 16 F H rfl fun s H=>?_,aa7 ?_,dIf ?_,ahQ ?_,amq ?_,arT ?_,abP ?_
 cases hgv:g with
 | dft x=>
  subst hgv
  obtain⟨t,rfl⟩:=hg _ (H.at [_,_,_]) (H.at [_,_,_,_])
  exists aaj 7 0 F H ?_,spL 16 F H rfl ?_,aa3 ?_
  refine dB 8 13 F H.bs ?_
  exists aa6 ?_,isStr H.bs H fun s H=>?_,tB ?_
  exact aaL<|h _ H
 | ms cs=>
  subst hgv
  obtain⟨m,rfl,hm,hn,hcs⟩:=hg _ (H.at [_,_,_]) (H.at [_,_,_,_])
  exists aaj 7 0 F H ?_,spL 16 F H rfl ?_,aa3 ?_
  refine dB 8 13 F H.bs ?_
  exists aa6 ?_,aso H.bs hm (akD _).s H fun s H=>?_,tB ?_,amq ?_,arT ?_,abP ?_
  obtain⟨m2,e2,hm,hn,hcs⟩:=hg _ (H.at [_,_,_]) (H.at [_,_,_,_])
  rw[e2] at H h
  exists 0,aaj 7 0 F H ?_,spL 16 F H rfl ?_,aa3 ?_,dG 4 0 F H.bs ?_,aa6 ?_,aso H.bs hm (akD _).m H fun s H=>?_,tB ?_
  exact aaL<|h _ H
end
section
variable {w:World}{A:Around}{s s0:Shared}{env:Env}{L:List Res}{v0 v1 v2 v3 v4 v5 v6 v7 v8 v9 v10 v11 v12 v13 v14 v15 v16:Option Value}{fp:Addr→Prop}{gp:Nat→Prop}{R':Res}
theorem ard {rl:Addr}{rvs:Array Value}{n:Str}{tn:Tok}{g:afY}{val:Value}{mv:Ms}{D:List Fz}{Q:Flow→Shared→Prop}(r:aah A 3 12) (F:aa8 env abc abf) (hg:∀ s₁:Shared,R'.P s₁→(msR mv).P s₁→ace s₁.heap g val) (hz:rvs.size≤900)
  (H:aa0 s (ab0 env v0 v1 v2 v3 v4 v5 v6 v7 v8 v9 v10 v11 v12 v13 (some (.ref rl)) (some (.str n tn)) (some val)::aa5 w fp gp s0::fzR D::R'::msR mv::aa2 rl rvs::L))
  (h:∀ s' D' x,aa0 s' (ab0 env v0 v1 v2 v3 v4 v5 v6 v7 v8 v9 v10 v11 v12 v13 (some (.ref rl)) (some (.str n tn)) (some val)::aa5 w fp gp s0::fzR D'::R'::msR mv::aa2 rl (rvs.push x)::L)→(∀ f∈D,f∈D')→RD D' x (.tuple [.str n,afT g])→Q .next s') :
  WP w A (execs (aou.drop 2) env) Q s:=by
 exists aa7 ?_
 refine afi F.inter ?_
 exists alP ?_,dL 14 F H rfl ⟨rl,_,rfl,(H.at (R:=aa2 rl rvs) [_,_,_,_,_]),?_⟩
 exists ael ?_,spL 15 F H rfl ?_,aa3 ?_,anZ ?_,abP ?_
 cases hgv:g with
 | dft x=>
  subst hgv
  obtain⟨t,rfl⟩:=hg _ (H.at [_,_,_]) (H.at [_,_,_,_])
  exists 0,aaj 7 0 F H ?_,spL 16 F H rfl ?_,aa3 ?_,dB 8 13 F H.bs ?_,aa6 ?_,isStr H.bs H fun s H=>?_,0,tB ?_
  refine ifP (rfl) ?_
  exists ab5 ?_,aa3 ?_,ael ?_,aa3 ?_,dUn ?_,aaW H fun s t1 H=>?_,0,aqM H fun s t2 H=>?_,spL 16 F H rfl ?_,aa6 ⟨_,_,_,H,aam,fun s a H=>aa6 ⟨_,_,_,H,aam,fun s b H=>aa6 ⟨_,_,_,H,aam,fun s c H=>?_⟩⟩⟩
  refine⟨[_,_,_,_,_],_,_,(aa0.fzAdd [_,_] ⟨true,c,#[.str n tn,.ref b]⟩ (aa0.fzAdd [_,_] ⟨false,b,#[.ref a]⟩ (aa0.fzAdd [_,_] ⟨true,a,#[.int (-1) t2,.str x t]⟩ (H.pick [0,1,5,4,3,2,6,7,8] 9)))),by exact q14 ‹_›,fun s H=>aer<|aaL ?_⟩
  refine h _ _ _ H (fun f m=>.tail _ (.tail _ (.tail _ m))) (.tuple (.head _) (.cons (.str _ _) (.cons (.list (.tail _ (.head _)) (.cons (.tuple (.tail _ (.tail _ (.head _))) (.cons (.int _ _) (.cons (.str _ _) .nil))) .nil)) .nil)))
 | ms cs=>
  subst hgv
  obtain⟨m,rfl,hm,hn,hcs⟩:=hg _ (H.at [_,_,_]) (H.at [_,_,_,_])
  exists aaj 7 0 F H ?_,spL 16 F H rfl ?_,aa3 ?_
  refine dB 8 13 F H.bs ?_
  exists aa6 ?_,aso H.bs hm (akD _).s H fun s H=>?_,tB ?_
  refine ifN ((by decide)) ?_
  obtain⟨m2,e2,hm,hn,hcs⟩:=hg _ (H.at [_,_,_]) (H.at [_,_,_,_])
  rw[e2] at H h
  have hm4:m2.rows.length≤4:=by rw[← m2.abs_length]; exact hn.len
  exists 0,aaj 5 12 F H ?_,aa3 ?_,agh (r.mono (by exact lb rfl) (by exact lb rfl)) ?_,dL 16 F H rfl ⟨m2,_,_,_,rfl,hm,by exact q50 ‹_›,H.bs,H,fun s v D3 H hd=>aa6 ?_⟩
  obtain⟨la,items,rfl,hla,hds⟩:=hd.lst
  exists afE (vs:=items.toList) H (by simpa using (show Heap.PlainList _ la items from aas (H.at [_,_]) _ hla).isList) hds (by rw[m2.abs_length]; lia) hn.nd fun s b D2 ps bvs H hk hb hbd hp hs=>?_,aa6 ⟨_,_,_,H,aam,fun s c H=>?_⟩
  refine⟨[_,_,_,_,_],_,_,(aa0.fzAdd [_,_] ⟨true,c,#[.str n tn,.ref b]⟩ (aa0.fzJoin [_,_] (H.pick [0,1,3,4,2,5,6,7] 8))),by exact q14 ‹_›,fun s H=>aer<|aaL ?_⟩
  rw[ag6 hn hp hs,hcs] at hbd
  refine h _ _ _ H (fun f m=>.tail _ (List.mem_append_right _ m)) (.tuple (.head _) (.cons (.str _ _) (.cons ?_ .nil)))
  simp only[ali]
  exact .list (.tail _ (List.mem_append_left _ hb)) (hbd.mono fun f m=>.tail _ (List.mem_append_left _ m))
end
noncomputable def ang (p:Option Str × afY):PyData:=.tuple [.str (p.1.getD ""),afT p.2]
noncomputable def abg (o:abD):PyData:=.list (o.map ang)
theorem ac6.get {h:Heap}:∀ {o:abD}{kvs:List (Option Str × Value)},ac6 h o kvs→o.length=kvs.length∧∀ (j:Nat) p,o[j]? = some p→∃ q,kvs[j]? = some q∧p.1=q.1∧ace h p.2 q.2
 | [],[],_=>⟨rfl,fun j p e=>by simp at e⟩
 | p::o,q::kvs,⟨e1,e2,e3⟩=>by
  obtain⟨h1,h2⟩:=ac6.get e3
  refine⟨by simp[h1],fun j r e=>?_⟩
  cases j with
  | zero=>cases e; exact⟨q,rfl,e1,e2⟩
  | succ j=>exact h2 j r (by simpa using e)
 | [],_::_,e=>e.elim
 | _::_,[],e=>e.elim
noncomputable def arC:Stmt:=at' alH 2
section
variable {w:World}{A:Around}{s s0:Shared}{env:Env}{L:List Res}{v0 v1 v2 v3 v4 v5 v6 v7 v8 v9 v10 v11 v12 v13 v14 v15 v16:Option Value}{fp:Addr→Prop}{gp:Nat→Prop}{R':Res}
inductive amJ (names:List Str) (o:abD) (D:List Fz) (env:Env) (v0 v1 v2 v3 v4 v5 v6 v7 v8 v9 v10:Option Value) (nl:Addr) (v12:Option Value) (d rl:Addr) (w:World) (fp:Addr→Prop) (gp:Nat→Prop) (s0:Shared) (kvs:List (Option Str × Value)) (R':Res) (mv:Ms) (it:Addr) (L:List Res) (n:Nat) (s':Shared):Prop
 | mk (i v15 v16 D' rvs):n=names.length - i→RDs D' rvs.toList ((o.take i).map ang)→rvs.size≤i→i≤names.length→(∀ f∈D,f∈D')→aa0 s' (ab0 env v0 v1 v2 v3 v4 v5 v6 v7 v8 v9 v10 (some (.ref nl)) v12 (some (.ref d)) (some (.ref rl)) v15 v16::aa5 w fp gp s0::ab7 w d kvs::R'::msR mv::fzR D'::aa2 rl rvs::abx it nl i::L)→amJ names o D env v0 v1 v2 v3 v4 v5 v6 v7 v8 v9 v10 nl v12 d rl w fp gp s0 kvs R' mv it L n s'
theorem aks {d rl nl:Addr}{kvs:List (Option Str × Value)}{nvs:Array Value}{names:List Str}{o:abD}{mv:Ms}{D:List Fz}{Q:Flow→Shared→Prop}(r:aah A 3 12) (F:aa8 env abc abf) (hnl:⟨false,nl,nvs⟩∈D) (hnd:RDs D nvs.toList (names.map .str)) (ho:o.map (·.1)=names.map some)
  (h3:names.length≤3) (nd:(kvs.map (·.1)).Nodup) (hS:∀ s₁:Shared,R'.P s₁→(msR mv).P s₁→ac6 s₁.heap o kvs)
  (H:aa0 s (ab0 env v0 v1 v2 v3 v4 v5 v6 v7 v8 v9 v10 (some (.ref nl)) v12 (some (.ref d)) (some (.ref rl)) v15 v16::aa5 w fp gp s0::ab7 w d kvs::R'::msR mv::fzR D::aa2 rl #[]::L))
  (h:∀ s' v15 v16 D' rvs,aa0 s' (ab0 env v0 v1 v2 v3 v4 v5 v6 v7 v8 v9 v10 (some (.ref nl)) v12 (some (.ref d)) (some (.ref rl)) v15 v16::aa5 w fp gp s0::ab7 w d kvs::R'::msR mv::fzR D'::aa2 rl rvs::L)→(∀ f∈D,f∈D')→RDs D' rvs.toList (o.map ang)→Q .next s') :
  WP w A (exec arC env) Q s:=by
 have hlist:∀ {s:Shared} {D':List Fz},(∀ f∈D,f∈D')→(fzR D').P s→s.heap.IsList nl nvs:=fun {s} {D'} k h=>(show s.heap.PlainList nl nvs from aas h _ (k _ hnl)).isList
 have hsz:nvs.size=names.length:=by have:=hnd.length; simpa using this
 have hol:o.length=names.length:=by have:=congrArg List.length ho; simpa using this
 exists aem ?_,dL 11 F H rfl ?_,aaM (hlist (fun J m=>m) (H.at [_,_,_,_,_])) H fun s it H=>?_
 replace H:=H.pick [0,1,3,4,5,6,7,2] 8
 exists abB (I:=amJ names o D env v0 v1 v2 v3 v4 v5 v6 v7 v8 v9 v10 nl v12 d rl w fp gp s0 kvs R' mv it L) (fun n s' hI=>?_) _ ⟨0,_,_,D,#[],rfl,.nil,Nat.le_refl _,Nat.zero_le _,fun J m=>m,H⟩
 clear H
 obtain⟨i,v15,v16,D',rvs,en,hd,hz,hi,hk,H⟩:=hI
 cases hr:names[i]? with
 | none=>
  have hlen:=List.getElem?_eq_none_iff.mp hr
  exists abF [_,_,_,_,_,_,_] r.handled H (hlist hk (H.at [_,_,_,_,_])) (o2 hsz hlen) fun s H=>?_
  rw[List.take_of_length_le (by exact q11 ‹_› ‹_› ‹_›)] at hd
  exact h _ _ _ _ _ (aa0.cut 1 (H.pick [7,0,1,2,3,4,5,6] 8)) hk hd
 | some nm=>
  obtain⟨x,hx,hxd⟩:=hnd.get (i:=i) (y:=.str nm) (by rw[List.getElem?_map,hr]; rfl)
  have hx':∃ t,x=.str nm t:=by cases hxd; exact⟨_,rfl⟩
  obtain⟨tn,rfl⟩:=hx'
  have hop:∃ g,o[i]? = some (some nm,g):=by
   have e:=congrArg (fun l=>l[i]?) ho
   simp only[List.getElem?_map,hr,Option.map_some] at e
   obtain⟨p,e1,e2⟩:=Option.map_eq_some_iff.mp e
   exact⟨p.2,by rw[e1,← e2]⟩
  obtain⟨g,hop⟩:=hop
  have hot:(o.take (i+1)).map ang=(o.take i).map ang++[.tuple [.str nm,afT g]]:=by simp only[List.take_add_one,hop,List.map_append]; rfl
  obtain⟨q,hq,e1,_⟩:=(hS _ (H.at [_,_,_]) (H.at [_,_,_,_])).get.2 i _ hop
  have hgv:∀ s₁:Shared,R'.P s₁→(msR mv).P s₁→ace s₁.heap g q.2:=fun s₁ p1 p2=>by
   obtain⟨q2,hq2,_,e2⟩:=(hS s₁ p1 p2).get.2 i _ hop
   rw[hq] at hq2
   cases hq2
   exact e2
  obtain⟨k,val⟩:=q
  cases e1
  have hval:=ae7 nd hq
  clear hop hq hxd
  exists aaN [_,_,_,_,_,_,_] H (hlist hk (H.at [_,_,_,_,_])) (by simpa using hx) fun s H=>?_,goS 15 F H rfl fun s H=>?_
  refine aqJ r F hval hgv H fun s H=>?_
  exists ard r F hgv (by lia) (H.pick [0,1,5,3,4,6,2,7] 8) fun s D2 x H hk2 hx2=>?_
  refine⟨_,o1 en ((List.getElem?_eq_some_iff.mp hr).1),i+1,_,_,D2,_,rfl,?_,by rw[Array.size_push]; exact q17 ‹_›,((List.getElem?_eq_some_iff.mp hr).1),fun f m=>hk2 f (hk f m),H.pick [0,1,6,3,4,2,5,7] 8⟩
  simp only[hot,Array.toList_push]
  exact (hd.mono hk2).append (.cons hx2 .nil)
end
section
variable {w:World}{A:Around}{s s0:Shared}{env:Env}{L:List Res}{v0 v1 v2 v3 v4 v5 v6 v7 v8 v9 v10 v11 v12 v13 v14 v15 v16:Option Value}{fp:Addr→Prop}{gp:Nat→Prop}{R':Res}
theorem as4 {d nl:Addr}{kvs:List (Option Str × Value)}{nvs:Array Value}{D:List Fz}{Q:Flow→Shared→Prop}(F:aa8 env abc abf) (hnl:⟨false,nl,nvs⟩∈D) (he:kvs.length=nvs.size) (h3:kvs.length≤3)
  (H:aa0 s (ab0 env v0 v1 v2 v3 v4 v5 v6 v7 v8 v9 v10 (some (.ref nl)) v12 (some (.ref d)) v14 v15 v16::aa5 w fp gp s0::ab7 w d kvs::fzR D::L))
  (h:∀ s',aa0 s' (ab0 env v0 v1 v2 v3 v4 v5 v6 v7 v8 v9 v10 (some (.ref nl)) v12 (some (.ref d)) v14 v15 v16::aa5 w fp gp s0::ab7 w d kvs::fzR D::L)→Q .next s') :
  WP w A (exec (at' alH 1) env) Q s:=by
 exists 0,dIf ?_,abS ?_,aaj 3 2 F H ?_,spL 13 F H rfl ?_,aa6 ?_,arS (H.at [_,_]) (by exact q73 ‹_›) ?_
 replace H:=H.keep (aab (s.toks+1+1))
 exists aaj 3 2 F H ?_
 refine spL 11 F H rfl ?_
 exists aa6 ?_,agH H (show Heap.PlainList _ nl nvs from aas (H.at [_,_,_]) _ hnl).isList (by lia) fun s t H=>?_,dNe ?_,tB ?_
 rw[he,if_neg (by simp)]
 exact aaL<|h _ H
theorem apK {d nl tl:Addr}{kvs:List (Option Str × Value)}{nvs tvs:Array Value}{names:List Str}{o:abD}{mv:Ms}{D:List Fz}{Q:Flow→Shared→Prop}(r:aah A 3 12) (F:aa8 env abc abf) (hnl:⟨false,nl,nvs⟩∈D) (hnd:RDs D nvs.toList (names.map .str)) (ho:o.map (·.1)=names.map some)
  (h3:names.length≤3) (nd:(kvs.map (·.1)).Nodup) (hS:∀ s₁:Shared,R'.P s₁→(msR mv).P s₁→ac6 s₁.heap o kvs) (hz:tvs.size≤900)
  (H:aa0 s (ab0 env v0 v1 v2 v3 v4 v5 v6 v7 v8 v9 v10 (some (.ref nl)) (some (.ref tl)) (some (.ref d)) v14 v15 v16::aa5 w fp gp s0::ab7 w d kvs::R'::msR mv::fzR D::aa2 tl tvs::L))
  (h:∀ s' v14 v15 v16 D' x,aa0 s' (ab0 env v0 v1 v2 v3 v4 v5 v6 v7 v8 v9 v10 (some (.ref nl)) (some (.ref tl)) (some (.ref d)) v14 v15 v16::aa5 w fp gp s0::R'::msR mv::fzR D'::aa2 tl (tvs.push x)::L)→(∀ f∈D,f∈D')→RD D' x (abg o)→Q .next s') :
  WP w A (execs alH env) Q s:=by
 have hsz:nvs.size=names.length:=by have:=hnd.length; simpa using this
 have hol:o.length=names.length:=by have:=congrArg List.length ho; simpa using this
 have hkl:kvs.length=names.length:=by rw[← hol]; exact (hS _ (H.at [_,_,_]) (H.at [_,_,_,_])).get.1.symm
 exists 0,aa7 ?_,ac8 ?_,ab5 ?_,aa6 ⟨_,_,_,H,aam,fun s rl H=>sL 14 F H rfl fun s H=>?_⟩
 exists aa7 ?_
 refine as4 F hnl (by lia) (by lia) (H.pick [0,1,3,6,2,4,5] 7) fun s H=>?_
 exists 0
 exists aa7 ?_,aks r F hnl hnd ho h3 nd hS (H.pick [0,1,2,5,6,3,4] 7) fun s v15 v16 D' rvs H hk hd=>?_
 exists 0,aa7 ?_,afi F.inter ?_,alP ?_,dL 12 F H rfl ⟨tl,_,rfl,(H.at (R:=aa2 tl tvs) [_,_,_,_,_,_,_]),?_⟩
 exists dL 14 F H rfl ⟨[_,_,_,_,_,_,_],_,_,H,by exact q14 ‹_›,fun s H=>aer<|aaL ?_⟩
 exact h _ _ _ _ _ _ (aa0.cut 1 ((aa0.fzAdd [_,_] ⟨false,rl,rvs⟩ (H.pick [0,1,5,6,2,3,4,7] 8)).pick [3,0,1,4,5,2,6] 7)) (fun f m=>.tail _ (hk f m)) (.list (.head _) (hd.mono fun f m=>.tail _ m))
end
noncomputable def arI:Stmt:=at' (aaa (D 17)) 14
section
variable {w:World}{A:Around}{s s0:Shared}{env:Env}{L:List Res}{v0 v1 v2 v3 v4 v5 v6 v7 v8 v9 v10 v11 v12 v13 v14 v15 v16:Option Value}{fp:Addr→Prop}{gp:Nat→Prop}{R':Res}
theorem aqm {α σ:Type}{S:abi α σ}{d u:Nat}{R₁:Res}{a g gs R x}{Q:Option Value→Shared→Prop}(K:List Res) (r:aah A (d+1) (u+1)) (G:aaq w d u S [] gs R) (H:aa0 s (R₁::aa5 w fp gp s0::(K++([aak a g false gs,R,S.Sh x]++L))))
  (h:∀ s' R' x',abq [R']→S.endR R'→S.fin x x'→aa0 s' (R₁::aa5 w fp gp s0::(K++([R',S.Sh x']++L)))→Q none s'):WP w A (pyNext (.ref a)) Q s:=by
 have hs:aaf s [aak a g false gs,R,S.Sh x]:=by
  have h0:aaf s ((R₁::aa5 w fp gp s0::K)++([aak a g false gs,R,S.Sh x]++L)):=H.2
  exact (aaf.append.mp (aaf.append.mp h0).2.1).1
 have hf:freeK (S.Sh x):=by
  have H':aa0 s ([R₁]++aa5 w fp gp s0::((K++[aak a g false gs,R])++S.Sh x::L)):=by simpa using H
  exact H'.freeK [R₁] _
 exists ahK r H.bs G hs hf fun R' x' s' hn he hx k=>?_
 have H2:aa0 s' ((R₁::aa5 w fp gp s0::K)++([aak a g false .finished,R',S.Sh x']++L)):=aa0.updN (K:=R₁::aa5 w fp gp s0::K) H k
 exact h s' R' x' hn he hx (H2.drop (R₁::aa5 w fp gp s0::K) (R:=aak a g false .finished) fun g' y e1 e2=>by
  have:=(H2.at (R₁::aa5 w fp gp s0::K)).2
  simp only[show g'=g from e1,this] at e2
  cases e2; rfl)
inductive amx (os:List abD) (w:World) (mv:Ms) (D:List Fz) (env:Env) (v0 v1 v2 v3 v4 v5 v6 v7 v9:Option Value) (lv nl tl:Addr) (fp:Addr→Prop) (gp:Nat→Prop) (s0:Shared) (a:Addr) (g:Nat) (L:List Res) (n:Nat) (s':Shared):Prop
 | mk (os1 os2 gs R v13 v14 v15 v16 D' tvs):n=os2.length→os=os1++os2→aaq w 60 230 (akC w mv) os2 gs R→RDs D' tvs.toList (os1.map abg)→(∀ f∈D,f∈D')→aa0 s' (ab0 env v0 v1 v2 v3 v4 v5 v6 v7 (some (.ref mv.x)) v9 (some (.ref lv)) (some (.ref nl)) (some (.ref tl)) v13 v14 v15 v16::aa5 w fp gp s0::([fzR D',aa2 tl tvs]++([aak a g false gs,R,msR mv]++L)))→amx os w mv D env v0 v1 v2 v3 v4 v5 v6 v7 v9 lv nl tl fp gp s0 a g L n s'
theorem aj7 {nl tl lv:Addr}{nvs:Array Value}{names:List Str}{vs:List VI}{mv:Ms}{D:List Fz}{Q:Flow→Shared→Prop}(r:aah A 70 250) (F:aa8 env abc abf) (hnl:⟨false,nl,nvs⟩∈D) (hnd:RDs D nvs.toList (names.map .str)) (ok:ajB vs mv) (ho:∀ o∈abw vs mv.abs,o.map (·.1)=names.map some)
  (h3:names.length≤3) (hz:(abw vs mv.abs).length≤900)
  (H:aa0 s (ab0 env v0 v1 v2 v3 v4 v5 v6 v7 (some (.ref mv.x)) v9 (some (.ref lv)) (some (.ref nl)) (some (.ref tl)) v13 v14 v15 v16::aa5 w fp gp s0::aat none::plR 280 #[]::aaQ lv vs::fzR D::aa2 tl #[]::msR mv::L))
  (h:∀ s' v13 v14 v15 v16 D' tvs R',ar0 R'→abq [R']→aa0 s' (ab0 env v0 v1 v2 v3 v4 v5 v6 v7 (some (.ref mv.x)) v9 (some (.ref lv)) (some (.ref nl)) (some (.ref tl)) v13 v14 v15 v16::aa5 w fp gp s0::fzR D'::aa2 tl tvs::R'::msR mv::L)→(∀ f∈D,f∈D')→RDs D' tvs.toList ((abw vs mv.abs).map abg)→Q .next s') :
  WP w A (exec arI env) Q s:=by
 exists 0,aem ?_,acB 6 5 F arn.obj H ?_,spL 8 F H rfl ?_,spL 10 F H rfl ?_,aa6 ⟨H.bs,asc (r.mono (by exact lb rfl) (by exact lb rfl)) ok H fun s a g gs R H G=>?_⟩
 exists adt (H.at [_,_]).1 ?_
 generalize abw vs mv.abs=os at ho hz h G
 replace H:=H.pick [0,1,4,5,2,3,6] 7
 exists abB (I:=amx os w mv D env v0 v1 v2 v3 v4 v5 v6 v7 v9 lv nl tl fp gp s0 a g L) (fun n s' hI=>?_) _ ⟨[],os,gs,R,_,_,_,_,D,#[],rfl,rfl,G,.nil,fun J m=>m,H⟩
 clear H G
 obtain⟨os1,os2,gs,R,v13,v14,v15,v16,D',tvs,en,eo,G,hd,hk,H⟩:=hI
 have htz:tvs.size=os1.length:=by have:=hd.length; simpa using this
 cases os2 with
 | nil=>
  exists aqm (x:=()) [_,_] (r.mono (by exact lb rfl) (by exact lb rfl)) G H fun s R' J hn he J H=>?_
  rw[List.append_nil] at eo
  rw[← eo] at hd
  exact h _ _ _ _ _ _ _ R' he hn H hk hd
 | cons o os2=>
  have hlen:os1.length+(os2.length+1)≤900:=by simp only[eo,List.length_append,List.length_cons] at hz; exact hz
  exists amD (x:=()) [_,_] (r.mono (by exact lb rfl) (by exact lb rfl)) G H fun v gs' R' RY y s J hv G H=>?_
  obtain⟨d,kvs,rfl,rfl,hk3,nd,hS⟩:=hv
  exists 0,goS 13 F H rfl fun s H=>?_,0
  have hom:o∈os:=by rw[eo]; exact List.mem_append_right _ (.head _)
  exists apK (r.mono (by exact lb rfl) (by exact lb rfl)) F (hk _ hnl) (hnd.mono hk) (ho o hom) h3 nd hS (by lia) (H.pick [0,1,6,5,7,2,3,4] 8) fun s v14 v15 v16 D2 x H hk2 hx=>?_
  refine⟨os2.length,by rw[en]; exact Nat.lt_succ_self _,os1++[o],os2,gs',R',_,_,_,_,D2,_,rfl,by simp only[eo,List.append_assoc]; rfl,G,?_,fun f m=>hk2 f (hk f m),H.pick [0,1,4,5,6,2,3] 7⟩
  simp only[List.map_append,Array.toList_push]
  exact (hd.mono hk2).append (.cons hx .nil)
end
structure ahM (ρ:PyData→Int) (ds:List PyData):Prop where
 lt:∀ d∈ds,∀ e∈ds,ltF 9 d e=some (decide (ρ d<ρ e))
 inj:∀ d∈ds,∀ e∈ds,ρ d=ρ e→d=e
theorem al1 {ds:List PyData}{r:Nat→Int}{p:List Nat}(h:aio r ds.length p):(p.map fun i=>ds.getD i .none).Perm ds:=by
 refine (h.perm.map _).trans ?_
 have e:(List.range ds.length).map (fun i=>ds.getD i .none)=ds:=by
  apply List.ext_getElem
  ·simp
  ·intro i h1 h2
   simp[List.getD_eq_getElem?_getD,List.getElem?_eq_getElem h2]
 rw[e]
theorem aip {ρ:PyData→Int}{ds:List PyData}{p:List Nat}(h:aio (fun i=>ρ (ds.getD i .none)) ds.length p):(p.map fun i=>ds.getD i .none).Pairwise fun a b=>ρ a≤ρ b:=by
 rw[List.pairwise_map,List.pairwise_iff_getElem]
 intro i j hi hj hij
 have hl:p.length=ds.length:=by rw[h.perm.length_eq,List.length_range]
 have:=h.srt i j (by exact q64 ‹_›) (by exact q4 ‹_› ‹_›)
 simp only[List.getD_eq_getElem?_getD,List.getElem?_eq_getElem hi,List.getElem?_eq_getElem hj,Option.getD_some] at this ⊢
 exact this
theorem agt {ρ:PyData→Int}:∀ {l m:List PyData},l.Perm m→(∀ d∈l,∀ e∈l,ρ d=ρ e→d=e)→l.Pairwise (fun a b=>ρ a≤ρ b)→m.Pairwise (fun a b=>ρ a≤ρ b)→l=m
 | [],m,hp,_,_,_=>hp.nil_eq
 | a::l,[],hp,_,_,_=>absurd hp.symm.nil_eq (by simp)
 | a::l,b::m,hp,hi,hl,hm=>by
  obtain⟨hla,hl'⟩:=List.pairwise_cons.mp hl
  obtain⟨hmb,hm'⟩:=List.pairwise_cons.mp hm
  have h1:ρ b≤ρ a:=by
   rcases List.mem_cons.mp (hp.mem_iff.mp (.head _)) with e | e
   ·rw[e]; exact Int.le_refl _
   ·exact hmb _ e
  have h2:ρ a≤ρ b:=by
   rcases List.mem_cons.mp (hp.mem_iff.mpr (.head _)) with e | e
   ·rw[e]; exact Int.le_refl _
   ·exact hla _ e
  have e:a=b:=hi a (.head _) b (hp.mem_iff.mpr (.head _)) (by lia)
  cases e
  exact congrArg _ (agt ((List.perm_cons a).mp hp) (fun d hd e he=>hi d (.tail _ hd) e (.tail _ he)) hl' hm')
section
variable {w:World}{A:Around}{s s0:Shared}{env:Env}{L:List Res}{R R₂:Res}
theorem arW {x y:Expr}{pos:Pos}{Q:Value→Shared→Prop}(h:WP w A (eval x env) (fun v s₁=>WP w A (truthy v) (fun t s₂=>if t then WP w A (eval y env) Q s₂ else Q v s₂) s₁) s):WP w A (eval (.BoolOp .And [x,y] pos) env) Q s:=by
 show WP w A (boolOp pos .And [eval x env,eval y env]) Q s
 refine .bind (h.mono fun v s₁ h1'=>.bind (.stand (.bind (.hold (h1'.mono fun t s₂ h2''=>?_)))))
 cases t with
 | true=>exact h2''
 | false=>exact .pure h2''
theorem aht {l:Addr}{vs:List Value}{D:List Fz}{ds:List PyData}{ρ:PyData→Int}{Q:Value→Shared→Prop}(rm:aah A 1 3) (H:aa0 s (R::R₂::fzR D::L)) (hl:s.heap.IsList l vs.toArray) (hd:RDs D vs ds) (h64:ds.length<64) (hls:∀ d∈ds,aic d=true) (hsh:∀ d∈ds,shaped d=true) (hr:ahM ρ ds)
  (h:∀ s' v D2 es,aa0 s' (R::R₂::fzR D2::L)→(∀ f∈D,f∈D2)→RD D2 v (.list es)→es.Perm ds→es.Pairwise (fun a b=>ρ a≤ρ b)→Q v s'):WP w A (call (.builtin "sorted") [.ref l]) Q s:=by
 have hm:∀ i,i<ds.length→ds.getD i .none∈ds:=fun i hi=>by
  rw[List.getD_eq_getElem?_getD,List.getElem?_eq_getElem hi]; exact List.getElem_mem hi
 exists alK (r:=fun i=>ρ (ds.getD i .none)) rm H hl hd h64 hls hsh (fun i j hi hj=>hr.lt _ (hm i hi) _ (hm j hj)) fun s' D' D2 p vs' H hk hD' hv ho=>?_
 exact h s' _ D2 _ H hk (.list hD' hv) (al1 ho) (aip ho)
end
noncomputable def dp (n:Nat) (d:PyData):Prop:=d.canLay0=true∧d.depth≤n
theorem apu {n:Nat}:∀ {es:List PyData},(∀ d∈es,dp n d)→PyData.canLayAll0 es=true∧PyData.depthAll es≤n:=by
 intro xX
 induction xX with
 | nil=>exact @fun J=>⟨rfl,Nat.zero_le _⟩
 | cons d es ih=>
  refine @fun h=>?_
  obtain⟨h1,h2⟩:=h d (.head _)
  obtain⟨h3,h4⟩:=ih fun e m=>h e (.tail _ m)
  exact⟨by simp[PyData.canLayAll0,h1,h3],by simp only[PyData.depthAll]; lia⟩
theorem dpL {n:Nat}{es:List PyData}(h:∀ d∈es,dp n d):dp (n+1) (.list es):=by
 obtain⟨h1,h2⟩:=apu h
 exact⟨by simpa [PyData.canLay0] using h1,by simp only[PyData.depth]; exact q17 ‹_›⟩
theorem dpT {n:Nat}{es:List PyData}(h:∀ d∈es,dp n d):dp (n+1) (.tuple es):=by
 obtain⟨h1,h2⟩:=apu h
 exact⟨by simpa [PyData.canLay0] using h1,by simp only[PyData.depth]; exact q17 ‹_›⟩
theorem ae1 {n:Nat}{d:PyData}(h:dp n d) (hn:n≤64):shaped d=true:=by
 simp only[shaped,Bool.and_eq_true,decide_eq_true_eq]
 exact⟨h.1,Nat.le_trans h.2 hn⟩
noncomputable def asH:Stmt:=at' (aaa (D 17)) 15
section
variable {w:World}{A:Around}{s s0:Shared}{env:Env}{L:List Res}{v0 v1 v2 v3 v4 v5 v6 v7 v8 v9 v10 v11 v12 v13 v14 v15 v16:Option Value}{fp:Addr→Prop}{gp:Nat→Prop}{R':Res}
theorem atC {tl vl al b:Addr}{bvs tvs:Array Value}{m:Ms}{D:List Fz}{ams:List Nat}{vars:List aaJ}{told:List PyData}{pre:List (Int × Int)}{ρ:PyData→Int}{Q:Flow→Shared→Prop}(r:aah A 8 30) (F:aa8 env abc abf) (C:aap env .cell ["amounts"] (abT env.locals 1))
  (ra:RD D (.ref al) (aia ams)) (rv:RD D (.ref vl) (.list (vars.map pvD))) (h3:vars.length≤3) (hc:∀ p∈vars,1≤p.count∧p.count≤3) (ha:∀ a∈ams,a≤4) (hal:ams.length≤10) (hb:∀ i,(aav (pcs vars) (ams.take i)).length≤900)
  (hbm:⟨false,b,bvs⟩∈D) (hbd:RDs D bvs.toList (pre.map pD)) (hpre:pre.length≤4) (hps:∀ ps:List (Int × Int),ps.Perm m.abs→ps.Pairwise (fun a b=>a.1<b.1)→ps=pre) (hn:m.rows.length<64) (nd:(m.abs.map Prod.fst).Nodup)
  (ht:RDs D tvs.toList told) (hp:told.Perm (abX ams vars)) (h64:told.length<64) (hls:∀ d∈told,aic d=true) (hsh:∀ d∈told,dp 20 d) (hr:ahM ρ told)
  (H:aa0 s (ab0 env v0 v1 v2 (some (.ref vl)) v4 v5 v6 v7 (some (.ref m.x)) (some (.ref b)) v10 v11 (some (.ref tl)) v13 v14 v15 v16::aa5 w fp gp s0::fzR D::aa2 tl tvs::msR m::aai (env.locals+1:Nat) (some (.ref al))::L))
  (h:∀ s' D',aa0 s' (ab0 env v0 v1 v2 (some (.ref vl)) v4 v5 v6 v7 (some (.ref m.x)) (some (.ref b)) v10 v11 (some (.ref tl)) v13 v14 v15 v16::aa5 w fp gp s0::fzR D'::aa2 tl tvs::msR m::aai (env.locals+1:Nat) (some (.ref al))::L)→Q (.ret (.bool true)) s') :
  WP w A (exec asH env) Q s:=by
 have hsL:∀ es:List PyData,es.Perm told→shaped (.list es)=true:=fun es hp=>ae1 (dpL fun d hd=>hsh d (hp.mem_iff.mp hd)) (by decide)
 exists 0,agD ?_,arW ?_,asP ?_,aaj 5 12 F H ?_,spL 12 F H rfl ?_,aa6 ?_,aht (vs:=tvs.toList) (r.mono (by exact lb rfl) (by exact lb rfl)) H (by simpa using (show Heap.PlainList _ tl tvs from H.at [_,_,_]).isList) ht h64 hls (fun d hd=>ae1 (hsh d hd) (by decide)) hr fun s v1 D1 es1 H hk1 hv1 he1 ho1=>?_,aaj 5 12 F H ?_,aa3 ?_,acB 9 12 F asZ.obj H ?_,aa3 ?_,dLC [_,_,_,_,_] 0 F C H ?_,spL 3 F H rfl ?_,aa6 ⟨H.bs,?_⟩
 exists ar9 (r.mono (by exact lb rfl) (by exact lb rfl)) H.bs (aas (H.at [_,_])) (ra.mono hk1) (rv.mono hk1) h3 hc ha hal hb fun s v2 D2 mk hv2=>?_,aa6 ?_
 replace H:=H.made mk
 obtain⟨dl,dvs,rfl,hdl,hdd⟩:=hv2.lst
 have hmem:∀ d,d∈abX ams vars→d∈told:=fun d hd=>hp.mem_iff.mpr hd
 exists aht (ρ:=ρ) (vs:=dvs.toList) (r.mono (by exact lb rfl) (by exact lb rfl)) H (by simpa using (show Heap.PlainList _ dl dvs from aas (H.at [_,_]) _ hdl).isList) hdd (by rw[← hp.length_eq]; exact h64) (fun d hd=>hls d (hmem d hd)) (fun d hd=>ae1 (hsh d (hmem d hd)) (by decide)) ⟨fun d hd e he=>hr.lt d (hmem d hd) e (hmem e he),fun d hd e he=>hr.inj d (hmem d hd) e (hmem e he)⟩ fun s v3 D3 es2 H hk3 hv3 he2 ho2=>?_
 have ee:es1=es2:=agt (he1.trans (hp.trans he2.symm)) (fun d hd e he=>hr.inj d (he1.mem_iff.mp hd) e (he1.mem_iff.mp he)) ho1 ho2
 subst ee
 have hs1:=hsL es1 he1
 exists aqR (r.mono (by exact lb rfl) (by exact lb rfl)) (aas (H.at (R:=fzR D1) [_,_,_])) (aas (H.at [_,_])) hv1 hv3 hs1 hs1 ?_,tB ?_
 rw[eqv_refl _ (by simp only[shaped,Bool.and_eq_true] at hs1; exact hs1.1),if_pos rfl]
 exists asP ?_,aaj 5 12 F H ?_,aa3 ?_
 refine agh (r.mono (by exact lb rfl) (by exact lb rfl)) ?_
 exists dL 8 F H rfl ⟨m,_,_,_,rfl,ahx (H.at [_,_,_,_,_]),by exact q65 ‹_›,H.bs,H,fun s v D4 H hd4=>aa6 ?_⟩
 obtain⟨la,items,rfl,hla,hds⟩:=hd4.lst
 exists afE (vs:=items.toList) H (by simpa using (show Heap.PlainList _ la items from aas (H.at [_,_]) _ hla).isList) hds (by rw[m.abs_length]; exact hn) nd fun s b2 D5 ps bvs2 H hk5 hb2 hbd2 hpp hss=>?_
 rw[hps ps hpp hss] at hbd2
 have hs2:=adA pre hpre
 exists dL 9 F H rfl ?_,aqR (r.mono (by exact lb rfl) (by exact lb rfl)) (aas (H.at [_,_])) (aas (H.at (R:=fzR D1) [_,_,_,_])) (.list hb2 hbd2) (.list (hk1 _ hbm) (hbd.mono hk1)) hs2 hs2 ?_
 rw[eqv_refl _ (by simp only[shaped,Bool.and_eq_true] at hs2; exact hs2.1)]
 exact h _ D1 (aa0.cut 2 (H.pick [2,3,0,1,4,5,6,7] 8) ⟨abp _,abp _,trivial⟩)
end
structure aiu (am:List Nat) (vars:List aaJ):Prop where
 s4:am.sum≤4
 l3:am.length≤3
 nice:aco (bag (aau am am.length))
 le4:∀ p∈bag (aau am am.length),p.2≤4
 k3:(bag (aau am am.length)).length≤3
 tot:tot (bag (aau am am.length))=(am.sum:Nat)
 srt:∀ ps:List (Int × Int),ps.Perm (bag (aau am am.length))→ps.Pairwise (fun a b=>a.1<b.1)→ps=ab4 am
 vl:1≤vars.length∧vars.length≤3
 vc:∀ p∈vars,1≤p.count∧p.count≤3
 vn:(vars.map aaJ.name).Nodup
 rows:∀ i,(aav (pcs vars) (am.take i)).length≤900
 names:∀ vs:List VI,vs.map VI.pv=vars→∀ o∈abw vs (bag (aau am am.length)),o.map (·.1)=(aaE vars).map some
 perm:∀ vs:List VI,vs.map VI.pv=vars→((abw vs (bag (aau am am.length))).map abg).Perm (abX am vars)
 few:(abX am vars).length<64
 lst:∀ d∈abX am vars,aic d=true∧dp 20 d
 rank:∃ ρ,ahM ρ (abX am vars)
noncomputable abbrev acC:Res:=aae [aat none,plR 280 #[]]
section
variable {w:World}
theorem aiU {A:Around}{s:Shared}{sl:Addr}{Q:Value→Shared→Prop}(r:aah A 81 303) (B:Bs w s.heap) (hp:acC.P s) (hf:freeK acC)
  (h:∀ A' env s₁,aah A' 80 300→aa8 env abc abf→aap env .cell ["amounts"] (abT env.locals 1)→
   aa0 s₁ (ab0 env (some (.ref sl)) none none none none none none none none none none none none none none none none::aa5 w acC.fp acC.gp s::aai (env.locals+1:Nat) none::aat none::plR 280 #[]::[])→WP w A' (execs (aaa (D 17)) env) (fun fl s'=>Q (aiv fl) s') s₁) :
  WP w A (call (.ref 333) [.ref sl]) Q s:=by
 have H1:aa0 s (aat none::plR 280 #[]::aa5 w acC.fp acC.gp s::[]):=(aa0.sep (L:=[_,_])).mp ((aa0.startR B hp hf).pick [1,0] 2)
 exists akb (d:=80) (u:=300) (vs:=[some (.ref sl),none,none,none,none,none,none,none,none,none,none,none,none,none,none,none,none]) (vcs:=[none]) (binds:=[("script",.ref sl)]) atm r B H1 rfl (BindsTo.of_eq (by kernel_rfl)) ?_ (by decide +kernel) ?_ ?_ rfl fun A' env s₁ r' he F C H=>?_
 ·intro x hx
  rw[List.mem_singleton.mp hx]
  exact .inl (by kernel_rfl)
 ·intro y
  rw[ac1 (fun x hx=>by
   rw[List.mem_singleton.mp hx]
   kernel_rfl)]
  rw[Option.or_none]
  exact aay ["script"] [.ref sl] ["first", "number", "variables", "j", "default", "things", "k", "values", "before", "asked", "named", "told", "found", "row", "name", "given"] [none,none,none,none,none,none,none,none,none,none,none,none,none,none,none,none] y (by decide +kernel) rfl (fun z hz=>by simpa using hz)
 ·intro i nm v h1 h2
  match i,h1,h2 with
  | 0,h1,h2=>cases h1; cases h2; kernel_rfl
  | i+1,h1,h2=>simp at h1
 exact h A' env s₁ r' F C (H.pick [0,4,1,2,3] 5)
end
noncomputable def acx (script:List Int):List aaJ:=adR (aaS script) ((List.range (aiH (aaS script))).map (afO script (aaS script)))
noncomputable def LB (n:Nat):List Stmt:=(aaa (D 17)).drop n
theorem agN (first:Int):1≤aiH first∧aiH first≤3:=by
 have h1:0≤first.fmod 3:=Int.fmod_nonneg_of_pos _ (by decide)
 have h2:first.fmod 3<3:=Int.fmod_lt_of_pos _ (by decide)
 unfold aiH; exact q22 ‹_› ‹_›
section
variable {w:World}{A:Around}{s s0:Shared}{env:Env}{L:List Res}{fp:Addr→Prop}{gp:Nat→Prop}{Q:Flow→Shared→Prop}
theorem atP {sl:Addr}{svs:List Value}{script:List Int}(hh:A.handled=none) (F:aa8 env abc abf) (C:aap env .cell ["amounts"] (abT env.locals 1)) (hs:s0.heap.IsList sl svs.toArray) (hfp:¬ fp sl) (hi:IntsAre svs script) (hsz:svs.length≤63)
  (H:aa0 s (ab0 env (some (.ref sl)) none none none none none none none none none none none none none none none none::aa5 w fp gp s0::aai (env.locals+1:Nat) none::L))
  (h:∀ s' v1 v2 v4 v5 al vl av vvs D,aa0 s' (ab0 env (some (.ref sl)) v1 v2 (some (.ref vl)) v4 v5 none none none none none none none none none none none::aa5 w fp gp s0::aai (env.locals+1:Nat) (some (.ref al))::fzR D::aa2 vl vvs::aa2 al (List.toArray av)::L)→
   IntsAre av ((agk script).map fun a:Nat=>(a:Int))→RDs D vvs.toList ((acx script).map pvD)→WP w A (execs (LB 6) env) Q s') :
  WP w A (execs (LB 0) env) Q s:=by
 have hz:svs.toArray.size≤sizeLine:=by rw[List.size_toArray]; exact Nat.le_trans (by lia) aan
 have hk:env.kindOf "amounts" = some .cell:=C.kind 0 _ rfl
 exists aa7 ?_,aqC F hs hfp hi (by lia) H fun s t1 H=>?_,0,aa7 ?_
 refine ahA hk (fun b e=>rfl) ?_
 exists ab5 ?_,aa6 ⟨_,_,_,H,aam,fun s al H=>sLC [_,_,_] 0 F C H fun s H=>?_⟩
 exists 0,aa7 ?_,aqx hh F C hs hfp hi hz (H.pick [0,1,3,2] 4) fun s v2 av H hav=>?_,aa7 ?_,ac8 ?_,ab5 ?_,aa6 ⟨_,_,_,H,aam,fun s vl H=>sL 3 F H rfl fun s H=>?_⟩
 exists 0,aa7 ?_,anR hh F hs hfp hi hz (aa0.fzNew [_,_,_] (H.pick [0,1,3,2,4] 5)) fun s v2 v4 v5 D vvs H J hd=>?_,aa7 ?_,aru F hd (by rw[List.length_map,List.length_range]; exact (agN _).1) (by rw[List.length_map,List.length_range]; exact (agN _).2) H fun s D vvs H J hd=>?_
 exact h _ _ _ _ _ _ _ _ _ _ H hav hd
end
section
variable {w:World}{A:Around}{s s0:Shared}{env:Env}{L:List Res}{fp:Addr→Prop}{gp:Nat→Prop}{Q:Flow→Shared→Prop}
theorem atO {am:List Nat}{vars:List aaJ}{v0 v1 v2 v4 v5:Option Value}{al vl:Addr}{av:List Value}{vvs:Array Value}{D:List Fz}(r:aah A 3 12) (F:aa8 env abc abf) (C:aap env .cell ["amounts"] (abT env.locals 1)) (P:aiu am vars)
  (ha:IntsAre av (am.map fun a:Nat=>(a:Int))) (hd:RDs D vvs.toList (vars.map pvD))
  (H:aa0 s (ab0 env v0 v1 v2 (some (.ref vl)) v4 v5 none none none none none none none none none none none::aa5 w fp gp s0::aai (env.locals+1:Nat) (some (.ref al))::fzR D::aa2 vl vvs::aa2 al (List.toArray av)::L))
  (h:∀ s' v6 v7 b bvs m D',aa0 s' (ab0 env v0 v1 v2 (some (.ref vl)) v4 v5 v6 v7 (some (.ref (Ms.x m))) (some (.ref b)) none none none none none none none::aa5 w fp gp s0::fzR D'::msR m::aai (env.locals+1:Nat) (some (.ref al))::L)→
   m.abs=bag (aau am am.length)→RD D' (.ref al) (aia am)→⟨false,vl,vvs⟩∈D'→RDs D' vvs.toList (vars.map pvD)→⟨false,b,bvs⟩∈D'→RDs D' bvs.toList ((ab4 am).map pD)→WP w A (execs (LB 11) env) Q s') :
  WP w A (execs (LB 6) env) Q s:=by
 have hth:(aau am am.length).length≤4:=Nat.le_trans (aeD am am.length (Nat.le_refl _)) P.s4
 exists 0,aa7 ?_,ac8 ?_,ab5 ?_,aa6 ⟨_,_,_,H,aam,fun s tl H=>sL 6 F H rfl fun s H=>?_⟩
 exists 0,aa7 ?_,ai1 r.handled F C ha P.s4 (Nat.le_trans P.l3 (by decide)) (H.pick [0,1,3,6,2,4,5] 7) fun s tl v7 tv H ht=>?_,aa7 ?_,aoJ r F ht (Nat.le_trans hth (by decide)) H fun s m H hm=>?_
 have hml:m.rows.length≤3:=by rw[← m.abs_length,hm]; exact P.k3
 have hnd:(m.abs.map Prod.fst).Nodup:=by rw[hm]; exact P.nice.nd
 exists aa7 ?_,aog r F (Nat.lt_of_le_of_lt hml (by decide)) hnd H fun s b Db bvs ps H hb hbd hp hs=>?_
 rw[hm] at hp
 rw[P.srt ps hp hs] at hbd
 exists aa7 ?_,apC r F C ha P.l3 hb hbd (by rw[hm]; exact P.tot) P.s4 H fun s H=>?_,0
 have H4:=aa0.cut 1 ((aa0.fzJoin [_,_] ((aa0.fzAdd [_,_] ⟨false,vl,vvs⟩ ((aa0.fzAdd [_,_] ⟨false,al,List.toArray av⟩ (H.pick [0,1,2,5,3,4,6,7,8] 9)).pick [0,1,6,7,2,3,4,5] 8)).pick [0,1,2,3,4,5,6] 7)).pick [5,0,1,2,3,4] 6)
 refine h _ _ _ _ _ _ _ H4 hm (.list (List.mem_append_right _ (.head _)) ?_) (List.mem_append_left _ (.head _)) (hd.mono fun f m=>List.mem_append_left _ (.tail _ m)) (List.mem_append_right _ (.tail _ hb)) (hbd.mono fun f m=>List.mem_append_right _ (.tail _ m))
 exact RDs.ints ha
end
theorem akJ {vs:List VI}{vars:List aaJ}(e:vs.map VI.pv=vars):vs.map VI.name=vars.map aaJ.name:=by simp only[← e,List.map_map]; rfl
theorem ag7 {vs:List VI}{vars:List aaJ}(e:vs.map VI.pv=vars) {v:VI}(h:v∈vs):v.pv∈vars:=by rw[← e]; exact List.mem_map_of_mem h
theorem abJ:∀ {l:List Nat}{a:Nat},a∈l→a≤l.sum
 | b::l,a,h=>by
  simp only[List.sum_cons]
  rcases List.mem_cons.mp h with rfl | h
  ·exact q48
  ·have:=abJ h; lia
section
variable {w:World}{A:Around}{s s0:Shared}{env:Env}{L:List Res}{fp:Addr→Prop}{gp:Nat→Prop}{Q:Flow→Shared→Prop}
theorem atF {am:List Nat}{vars:List aaJ}{v0 v1 v2 v4 v5 v6 v7:Option Value}{al vl b:Addr}{vvs bvs:Array Value}{m:Ms}{D:List Fz}(r:aah A 80 300) (F:aa8 env abc abf) (C:aap env .cell ["amounts"] (abT env.locals 1)) (P:aiu am vars)
  (hm:m.abs=bag (aau am am.length)) (ra:RD D (.ref al) (aia am)) (hvl:⟨false,vl,vvs⟩∈D) (hd:RDs D vvs.toList (vars.map pvD)) (hb:⟨false,b,bvs⟩∈D) (hbd:RDs D bvs.toList ((ab4 am).map pD))
  (H:aa0 s (ab0 env v0 v1 v2 (some (.ref vl)) v4 v5 v6 v7 (some (.ref m.x)) (some (.ref b)) none none none none none none none::aa5 w fp gp s0::fzR D::msR m::aai (env.locals+1:Nat) (some (.ref al))::aat none::plR 280 #[]::L))
  (h:∀ s' R₁ D' tl tvs R',ar0 R'→abq [R₁,R']→aa0 s' (R₁::aa5 w fp gp s0::fzR D'::aa2 tl tvs::msR m::aai (env.locals+1:Nat) (some (.ref al))::R'::L)→Q (.ret (.bool true)) s') :
  WP w A (execs (LB 11) env) Q s:=by
 exists aa7 ?_,apJ (r.mono (by exact lb rfl) (by exact lb rfl)) F hvl hd P.vl.2 H fun s lv vs H hvs=>?_,aa7 ?_,aqg (r.mono (by exact lb rfl) (by exact lb rfl)) F hvl hd P.vl.2 (H.pick [0,1,3,2] 4) fun s nl nvs H hnd=>?_,aa7 ?_,ac8 ?_
 refine ab5 ?_
 exists aa6 ⟨_,_,_,H,aam,fun s tl H=>sL 12 F H rfl fun s H=>?_⟩
 have hml:m.rows.length≤3:=by rw[← m.abs_length,hm]; exact P.k3
 have hnl:(aaE vars).length≤3:=Nat.le_trans (List.length_filterMap_le ..) P.vl.2
 have hvl3:vs.length=vars.length:=by simp only[← hvs,List.length_map]
 have hperm:=P.perm vs hvs
 have hnames:=P.names vs hvs
 rw[← hm] at hperm hnames
 have ok:ajB vs m:=⟨by rw[hvl3]; exact P.vl,by rw[akJ hvs]; exact P.vn,fun v hv=>by
  obtain⟨h1,h2⟩:=P.vc _ (ag7 hvs hv)
  have e:v.pv.count=v.count:=rfl
  rw[e] at h1 h2
  simp only[List.mem_cons,List.not_mem_nil,or_false]
  lia,by rw[hm]; exact P.nice,by rw[hm]; exact P.le4,by rw[hm]; exact P.k3⟩
 have hlen:((abw vs m.abs).map abg).length<64:=by rw[hperm.length_eq]; exact P.few
 exists 0,aa7 ?_,aj7 (r.mono (by exact lb rfl) (by exact lb rfl)) F (.head _) (hnd.mono fun f m=>.tail _ m) ok hnames hnl (by rw[List.length_map] at hlen; lia) (H.pick [0,1,7,8,4,3,2,5,6] 9) fun s v13 v14 v15 v16 D1 tvs R' hT hn H hk ht=>?_
 have hk2:∀ f∈D,f∈D1:=fun f m=>hk f (.tail _ m)
 obtain⟨ρ,hρ⟩:=P.rank
 have hmem:∀ d∈(abw vs m.abs).map abg,d∈abX am vars:=fun d hd=>hperm.mem_iff.mp hd
 exists aa7 ?_,atC (r.mono (by exact lb rfl) (by exact lb rfl)) F C (ra.mono hk2) (.list (hk2 _ hvl) (hd.mono hk2)) P.vl.2 P.vc (fun a ha=>?_) (Nat.le_trans P.l3 (by decide)) P.rows (hk2 _ hb) (hbd.mono hk2) ?_ (fun ps hp hs=>P.srt ps (by rw[← hm]; exact hp) hs) (Nat.lt_of_le_of_lt hml (by decide)) (by rw[hm]; exact P.nice.nd) ht hperm hlen (fun d hd=>(P.lst d (hmem d hd)).1) (fun d hd=>(P.lst d (hmem d hd)).2) (ρ:=ρ) ⟨fun d hd e he=>hρ.lt d (hmem d hd) e (hmem e he),fun d hd e he=>hρ.inj d (hmem d hd) e (hmem e he)⟩ (H.pick [0,1,2,3,5,6,4] 7) fun s' D' H=>?_
 ·exact Nat.le_trans (abJ ha) P.s4
 ·unfold ab4
  rw[List.length_map]
  exact Nat.le_trans (List.length_filter_le ..) (by rw[List.length_range]; exact Nat.le_trans P.l3 (by decide))
 ·exact h _ _ _ _ _ R' hT ⟨fun J z=>z,hn⟩ H
end
end
noncomputable def aaT:List (List Nat):=([[]]++(List.range 5).map (fun a=>[a])++(List.range 5).flatMap (fun a=>(List.range 5).map fun b=>[a,b])++(List.range 5).flatMap fun a=>(List.range 5).flatMap fun b=>(List.range 5).map fun c=>[a,b,c]).filter fun am=>decide (am.sum≤4)
theorem adj:∀ {am:List Nat},am.length≤3→am.sum≤4→am∈aaT
 | [],_,_=>by decide +kernel
 | [a],_,h=>by
  have h1:a≤4:=by simpa using h
  have:∀ a∈List.range 5,[a]∈aaT:=by decide +kernel
  exact this a (List.mem_range.mpr (by exact Nat.succ_le_succ ‹_›))
 | [a,b],_,h=>by
  have h1:a+b≤4:=by simpa using h
  have:∀ a∈List.range 5,∀ b∈List.range 5,a+b≤4→[a,b]∈aaT:=by decide +kernel
  exact this a (List.mem_range.mpr (by lia)) b (List.mem_range.mpr (by lia)) h1
 | [a,b,c],_,h=>by
  have h1:a+(b+c)≤4:=by simpa using h
  have:∀ a∈List.range 5,∀ b∈List.range 5,∀ c∈List.range 5,a+(b+c)≤4→[a,b,c]∈aaT:=by decide +kernel
  exact this a (List.mem_range.mpr (by lia)) b (List.mem_range.mpr (by lia)) c (List.mem_range.mpr (by lia)) h1
 | _::_::_::_::_,h,_=>by simp at h
noncomputable def lvl (am:List Nat):Nat→List (Int × Int)
 | 0=>[]
 | k+1=>if 0<am.getD k 0 then ((k:Int),((am.getD k 0:Nat):Int))::lvl am k else lvl am k
noncomputable def aha (am:List Nat):List (Int × Int):=bag (aau am am.length)
noncomputable def asr (l:List (Int × Int)):Bool:=decide (l.map Prod.fst).Nodup&&l.all (fun p=>decide (0≤p.1∧p.1<4))&&l.all (fun p=>decide (0<p.2∧p.2≤4))&&decide (l.length≤3)
theorem ajl:∀ am∈aaT,aha am=lvl am am.length:=by decide +kernel
theorem aoE:∀ am∈aaT,asr (lvl am am.length)=true:=by decide +kernel
theorem aqp:∀ am∈aaT,tot (lvl am am.length)=(am.sum:Nat):=by decide +kernel
theorem alR:∀ am∈aaT,(ab4 am).isPerm (lvl am am.length)=true:=by decide +kernel
theorem aex (am:List Nat):(ab4 am).Pairwise fun a b=>a.1<b.1:=by
 unfold ab4
 rw[List.pairwise_map]
 refine List.Pairwise.filter _ ?_
 exact List.pairwise_lt_range.imp fun h=>by simpa using h
theorem apc {am:List Nat}(h:am∈aaT) {ps:List (Int × Int)}(hp:ps.Perm (aha am)) (hs:ps.Pairwise fun a b=>a.1<b.1):ps=ab4 am:=by
 rw[ajl am h] at hp
 exact adf hs (aex am) fun x=>(hp.trans (List.isPerm_iff.mp (alR am h)).symm).mem_iff
theorem ak6 {l:List (Int × Int)}(h:asr l=true):aco l∧(∀ p∈l,p.2≤4)∧l.length≤3:=by
 simp only[asr,Bool.and_eq_true,decide_eq_true_eq,List.all_eq_true] at h
 obtain⟨⟨⟨h1,h2⟩,h3⟩,h4⟩:=h
 exact⟨⟨h1,h2,fun p m=>(h3 p m).1⟩,fun p m=>(h3 p m).2,h4⟩
noncomputable def acO:List (List Nat):=[1,2,3].map (fun a=>[a])++[1,2,3].flatMap (fun a=>[1,2,3].map fun b=>[a,b])++[1,2,3].flatMap fun a=>[1,2,3].flatMap fun b=>[1,2,3].map fun c=>[a,b,c]
theorem ae2 {a:Nat}(h:1≤a∧a≤3):a∈[1,2,3]:=by simp only[List.mem_cons,List.not_mem_nil,or_false]; lia
theorem aja:∀ {cs:List Nat},1≤cs.length→cs.length≤3→(∀ c∈cs,1≤c∧c≤3)→cs∈acO
 | [],h,_,_=>by simp at h
 | [a],_,_,h=>by
  have:∀ a∈[1,2,3],[a]∈acO:=by decide +kernel
  exact this a (ae2 (h a (.head _)))
 | [a,b],_,_,h=>by
  have:∀ a∈[1,2,3],∀ b∈[1,2,3],[a,b]∈acO:=by decide +kernel
  exact this a (ae2 (h a (.head _))) b (ae2 (h b (.tail _ (.head _))))
 | [a,b,c],_,_,h=>by
  have:∀ a∈[1,2,3],∀ b∈[1,2,3],∀ c∈[1,2,3],[a,b,c]∈acO:=by decide +kernel
  exact this a (ae2 (h a (.head _))) b (ae2 (h b (.tail _ (.head _)))) c (ae2 (h c (.tail _ (.tail _ (.head _)))))
 | _::_::_::_::_,_,h,_=>by simp at h
noncomputable def tri (a:Nat):Nat:=[1,3,6,10,15].getD a 0
theorem akV:∀ cs∈acO,∀ a∈List.range 5,(adk a cs).length≤tri a:=by decide +kernel
theorem aki:∀ cs∈acO,adk 0 cs=[cs.map fun J=>0]:=by decide +kernel
noncomputable def atY (am:List Nat):Nat:=am.foldl (fun n a=>n * tri a) 1
theorem aoA:∀ am∈aaT,atY am≤54:=by decide +kernel
theorem akM (cs:List Nat) (rows:List (List (List Int))) (a:Nat):(ab6 cs rows a).length=rows.length * (adk a cs).length:=by
 unfold ab6
 induction adk a cs with
 | nil=>rfl
 | cons w ws ih=>simp only[List.flatMap_cons,List.length_append,ih,List.length_map,List.length_cons,Nat.mul_add,Nat.mul_one,Nat.add_comm]
theorem alb {cs:List Nat}(hc:cs∈acO):∀ (am:List Nat) (rows:List (List (List Int))) (n:Nat),(∀ a∈am,a≤4)→rows.length≤n→(am.foldl (ab6 cs) rows).length≤am.foldl (fun n a=>n * tri a) n:=by
 intro xX
 induction xX with
 | nil=>exact @fun J J J h=>h
 | cons a am ih=>
  refine @fun rows n ha h=>?_
  refine ih _ _ (fun b m=>ha b (.tail _ m)) ?_
  rw[akM]
  exact Nat.mul_le_mul h (akV cs hc a (List.mem_range.mpr (Nat.lt_succ_of_le (ha a (.head _)))))
theorem alF (am:List Nat) (i:Nat):(am.take i).sum≤am.sum:=by
 conv=>rhs; rw[← List.take_append_drop i am,List.sum_append]
 exact q48
theorem ai2 {cs am:List Nat}(hc:cs∈acO) (hl:am.length≤3) (h4:am.sum≤4) (i:Nat):(aav cs (am.take i)).length≤54:=by
 have hs:=alF am i
 have hm:=adj (am:=am.take i) (by rw[List.length_take]; lia) (by lia)
 exact Nat.le_trans (alb hc _ _ 1 (fun a m=>Nat.le_trans (abJ m) (by lia)) (Nat.le_refl _)) (aoA _ hm)
noncomputable def cel (S:List (List Int)) (j i:Nat):Int:=(S.getD j []).getD i 0
structure Shp (n:Nat) (S:List (List Int)):Prop where
 len:S.length=n
 w:∀ s∈S,s.length=4
theorem Shp.ext {n:Nat}{S T:List (List Int)}(h:Shp n S) (h':Shp n T) (e:∀ j,j<n→∀ i,i<4→cel S j i=cel T j i):S=T:=by
 apply List.ext_getElem (by rw[h.len,h'.len])
 intro j h1 h2
 have w1:=h.w _ (List.getElem_mem h1)
 have w2:=h'.w _ (List.getElem_mem h2)
 apply List.ext_getElem (by rw[w1,w2])
 intro i i1 i2
 have:=e j (by rw[h.len] at h1; exact h1) i (by exact q4 ‹_› ‹_›)
 unfold cel at this
 simpa [List.getD_eq_getElem?_getD,List.getElem?_eq_getElem h1,List.getElem?_eq_getElem h2,List.getElem?_eq_getElem i1,List.getElem?_eq_getElem i2] using this
theorem Shp.applyR {n:Nat}{S:List (List Int)}{k:Int}{o:List Int}(h:Shp n S) (ho:o.length=n):Shp n (applyR k o S):=by
 refine⟨by unfold Mine.applyR; rw[List.length_zipWith,h.len,ho,Nat.min_self],fun s hs=>?_⟩
 unfold Mine.applyR at hs
 obtain⟨j,hj,rfl⟩:=List.mem_iff_getElem.mp hs
 rw[List.getElem_zipWith,List.length_set]
 exact h.w _ (List.getElem_mem _)
theorem aaI {n:Nat}{S:List (List Int)}{k:Int}{o:List Int}(h:Shp n S) (ho:o.length=n) {j i:Nat}(hj:j<n) (hi:i<4):cel (applyR k o S) j i=if i=k.toNat then o.getD j 0 else cel S j i:=by
 have h1:j<S.length:=by rw[h.len]; exact hj
 have h2:j<o.length:=by rw[ho]; exact hj
 have h3:j<(applyR k o S).length:=by rw[(h.applyR ho (k:=k)).len]; exact hj
 have w:=h.w _ (List.getElem_mem h1)
 unfold cel
 simp only[List.getD_eq_getElem?_getD,List.getElem?_eq_getElem h1,List.getElem?_eq_getElem h2,List.getElem?_eq_getElem h3,Option.getD_some]
 have e:(applyR k o S)[j] = S[j].set k.toNat o[j]:=List.getElem_zipWith
 rw[e,List.getElem?_set]
 by_cases e:k.toNat=i
 ·subst e
  rw[if_pos rfl,if_pos rfl,if_pos (by rw[w]; exact hi)]; rfl
 ·rw[if_neg e,if_neg (Ne.symm e)]
noncomputable def okU (n:Nat) (u:List (Int × List Int)):Prop:=∀ p∈u,p.2.length=n
theorem Shp.applyU {n:Nat}:∀ {u:List (Int × List Int)}{S:List (List Int)},okU n u→Shp n S→Shp n (applyU u S)
 | [],_,_,h=>h
 | p::u,_,hu,h=>Shp.applyU (u:=u) (fun q m=>hu q (.tail _ m)) (h.applyR (hu p (.head _)))
theorem ah7 {n:Nat}{j i:Nat}(hj:j<n) (hi:i<4):∀ {u:List (Int × List Int)}{S:List (List Int)},okU n u→Shp n S→(∀ p∈u,i≠p.1.toNat)→cel (applyU u S) j i=cel S j i
 | [],_,_,_,_=>rfl
 | p::u,S,hu,h,hk=>by
  show cel (applyU u (applyR p.1 p.2 S)) j i=_
  rw[ah7 hj hi (u:=u) (fun q m=>hu q (.tail _ m)) (h.applyR (hu p (.head _))) (fun q m=>hk q (.tail _ m)),aaI h (hu p (.head _)) hj hi,if_neg (hk p (.head _))]
theorem aiZ {n:Nat}{j i:Nat}(hj:j<n) (hi:i<4):∀ {u:List (Int × List Int)}{S T:List (List Int)},okU n u→Shp n S→Shp n T→((∀ p∈u,i≠p.1.toNat)→cel S j i=cel T j i)→cel (applyU u S) j i=cel (applyU u T) j i:=by
 intro xX
 induction xX with
 | nil=>exact @fun J J J J J e=>e (fun J m=>nomatch m)
 | cons p u ih=>
  refine @fun S T hu h h' e=>?_
  refine ih (fun q m=>hu q (.tail _ m)) (h.applyR (hu p (.head _))) (h'.applyR (hu p (.head _))) fun hk=>?_
  rw[aaI h (hu p (.head _)) hj hi,aaI h' (hu p (.head _)) hj hi]
  by_cases c:i=p.1.toNat
  ·rw[if_pos c,if_pos c]
  ·rw[if_neg c,if_neg c]
   exact e fun q m=>by
    rcases List.mem_cons.mp m with rfl | m
    ·exact c
    ·exact hk q m
noncomputable def aiK:List (Int × List (List Int))→List (List (Int × List Int))
 | []=>[[]]
 | p::ls=>p.2.flatMap fun o=>(aiK ls).map ((p.1,o)::·)
noncomputable def okL (n:Nat) (ls:List (Int × List (List Int))):Prop:=∀ p∈ls,∀ o∈p.2,o.length=n
theorem akq {n:Nat}:∀ {ls:List (Int × List (List Int))},okL n ls→∀ u∈aiK ls,okU n u∧u.map (·.1)=ls.map (·.1):=by
 intro xX
 induction xX with
 | nil=>refine @fun J u m=>?_; rw[List.mem_singleton.mp m]; exact⟨fun J m=>(nomatch m),rfl⟩
 | cons p ls ih=>
  refine @fun h u m=>?_
  obtain⟨o,ho,m⟩:=List.mem_flatMap.mp m
  obtain⟨v,hv,rfl⟩:=List.mem_map.mp m
  obtain⟨h1,h2⟩:=ih (fun q m=>h q (.tail _ m)) v hv
  refine⟨fun q m=>?_,by simp only[List.map_cons,List.map_cons,h2]⟩
  rcases List.mem_cons.mp m with rfl | m
  ·exact h p (.head _) o ho
  ·exact h1 q m
theorem asg {n:Nat}:∀ {ls:List (Int × List (List Int))},okL n ls→∀ u∈ab1 ls,okU n u∧∀ p∈u,p.1∈ls.map (·.1):=by
 intro xX
 induction xX with
 | nil=>refine @fun J u m=>?_; rw[List.mem_singleton.mp m]; exact⟨fun J m=>(nomatch m),fun J m=>(nomatch m)⟩
 | cons p ls ih=>
  refine @fun h u m=>?_
  obtain⟨o,ho,m⟩:=List.mem_flatMap.mp m
  have ih:=ih fun q m=>h q (.tail _ m)
  have hc:∀ v∈ab1 ls,okU n v∧∀ q∈v,q.1∈(p::ls).map (·.1):=fun v hv=>⟨(ih v hv).1,fun q mq=>.tail _ ((ih v hv).2 q mq)⟩
  rcases ad2 m with⟨v,hv,rfl⟩ | ⟨v,hv,rfl⟩
  ·refine⟨fun q mq=>?_,fun q mq=>?_⟩
   ·rcases List.mem_cons.mp mq with rfl | mq
    ·exact h p (.head _) o ho
    ·exact (hc v hv).1 q mq
   ·rcases List.mem_cons.mp mq with rfl | mq
    ·exact .head _
    ·exact (hc v hv).2 q mq
  ·exact hc _ hv
noncomputable def aqk:List (List Int)→List (List (Int × List Int))→List (List Int)
 | S,[]=>S
 | S,u::us=>aqk (applyU u S) us
theorem alZ:∀ (us vs:List (List (Int × List Int))) (S:List (List Int)),afF S (us++vs)=afF S us++afF (aqk S us) vs:=by
 intro xX
 induction xX with
 | nil=>exact @fun J J=>rfl
 | cons u us ih=>
  refine @fun vs S=>?_
  show applyU u S::afF (applyU u S) (us++vs)=applyU u S::afF (applyU u S) us++_
  rw[ih vs]; rfl
theorem anx {n:Nat}{K:List Int}:∀ {us:List (List (Int × List Int))}{S:List (List Int)},(∀ u∈us,okU n u∧∀ p∈u,p.1∈K)→Shp n S→Shp n (aqk S us)∧∀ j,j<n→∀ i,i<4→(∀ k∈K,i≠k.toNat)→cel (aqk S us) j i=cel S j i:=by
 intro xX
 induction xX with
 | nil=>exact @fun J J h=>⟨h,fun J J J J J=>rfl⟩
 | cons u us ih=>
  refine @fun S hu h=>?_
  obtain⟨h1,h2⟩:=hu u (.head _)
  obtain⟨h3,h4⟩:=ih (fun v m=>hu v (.tail _ m)) (h.applyU h1)
  refine⟨h3,fun j hj i hi hk=>?_⟩
  show cel (aqk (applyU u S) us) j i=_
  rw[h4 j hj i hi hk]
  exact ah7 hj hi h1 h fun p m=>hk _ (h2 p m)
theorem ajK {n:Nat}:∀ (ls:List (Int × List (List Int))) (S Z:List (List Int)),okL n ls→Shp n S→Shp n Z→(∀ j,j<n→∀ i,i<4→(∀ k∈ls.map (·.1),i≠k.toNat)→cel S j i=cel Z j i)→
  afF S (ab1 ls)=(aiK ls).map fun c=>applyU c Z
 | [],S,Z,_,hS,hZ,e=>by
  have:S=Z:=hS.ext hZ fun j hj i hi=>e j hj i hi (fun J m=>nomatch m)
  subst this; rfl
 | p::ls,S,Z,hl,hS,hZ,e=>by
  have hl':okL n ls:=fun q m=>hl q (.tail _ m)
  have hu:=asg hl'
  have key:∀ (os:List (List Int)) (S:List (List Int)),(∀ o∈os,o.length=n)→Shp n S→(∀ j,j<n→∀ i,i<4→(∀ k∈(p::ls).map (·.1),i≠k.toNat)→cel S j i=cel Z j i)→
    afF S (os.flatMap fun o=>abz ((p.1,o)::·) id (ab1 ls))=(os.flatMap fun o=>(aiK ls).map ((p.1,o)::·)).map fun c=>applyU c Z:=by
   intro os
   induction os with
   | nil=>intro S _ _ _; rfl
   | cons o os ih=>
    intro S ho hS e
    have hol:=ho o (.head _)
    simp only[List.flatMap_cons,List.flatMap_cons,alZ,List.map_append]
    have hb:∀ u∈abz ((p.1,o)::·) id (ab1 ls),okU n u∧∀ q∈u,q.1∈(p::ls).map (·.1):=fun u m=>by
     rcases ad2 m with⟨v,hv,rfl⟩ | ⟨v,hv,rfl⟩
     ·refine⟨fun q mq=>?_,fun q mq=>?_⟩
      ·rcases List.mem_cons.mp mq with rfl | mq
       ·exact hol
       ·exact (hu v hv).1 q mq
      ·rcases List.mem_cons.mp mq with rfl | mq
       ·exact .head _
       ·exact .tail _ ((hu v hv).2 q mq)
     ·exact⟨(hu _ hv).1,fun q mq=>.tail _ ((hu _ hv).2 q mq)⟩
    obtain⟨l1,l2⟩:=anx hb hS
    congr 1
    ·have ih0:=ajK ls (applyR p.1 o S) (applyR p.1 o Z) hl' (hS.applyR hol) (hZ.applyR hol) fun j hj i hi hk=>by
      rw[aaI hS hol hj hi,aaI hZ hol hj hi]
      by_cases c:i=p.1.toNat
      ·rw[if_pos c,if_pos c]
      ·rw[if_neg c,if_neg c]
       refine e j hj i hi fun k mk=>?_
       rcases List.mem_cons.mp mk with rfl | mk
       ·exact c
       ·exact hk k mk
     rw[List.map_map]
     show _=(aiK ls).map fun c=>applyU c (applyR p.1 o Z)
     rw[← ih0]
     cases ab1 ls with
     | nil=>rfl
     | cons u1 us=>show applyU u1 (applyR p.1 o S)::afF _ (us.map id)=applyU u1 (applyR p.1 o S)::afF _ us; rw[List.map_id]; rfl
    ·exact ih _ (fun q m=>ho q (.tail _ m)) l1 fun j hj i hi hk=>(l2 j hj i hi hk).trans (e j hj i hi hk)
  exact key p.2 S (fun o m=>hl p (.head _) o m) hS e
noncomputable def stR (n:Nat) (row:List (List Int)):List (List Int):=(List.range n).map fun j=>(List.range 4).map fun i=>wAt row i j
theorem abZ (n:Nat) (row:List (List Int)):Shp n (stR n row):=⟨by simp[stR],fun s hs=>by
 obtain⟨j,_,rfl⟩:=List.mem_map.mp hs
 rfl⟩
theorem afb {n:Nat}{row:List (List Int)}{j i:Nat}(hj:j<n) (hi:i<4):cel (stR n row) j i=wAt row i j:=by
 unfold cel stR
 simp[List.getD_eq_getElem?_getD,List.getElem?_map,List.getElem?_range hj,List.getElem?_range hi]
theorem ak3 {row:List (List Int)}{way:List Int}{i j:Nat}:wAt (row++[way]) i j=if i=row.length then way.getD j 0 else wAt row i j:=by
 unfold wAt
 simp only[List.getD_eq_getElem?_getD]
 by_cases h:i<row.length
 ·rw[List.getElem?_append_left h,if_neg (by lia)]
 ·rw[List.getElem?_append_right (by lia)]
  by_cases e:i=row.length
  ·rw[if_pos e,e,Nat.sub_self]; rfl
  ·rw[if_neg e,List.getElem?_eq_none (l:=row) (by grind),List.getElem?_eq_none (l:=[way]) (by simp; lia)]
theorem ajM {row:List (List Int)}{i j:Nat}(h:row.length≤i):wAt row i j=0:=by
 unfold wAt
 simp[List.getD_eq_getElem?_getD,List.getElem?_eq_none h]
theorem anC {n k:Nat}{row:List (List Int)}{way:List Int}(hr:row.length=k) (hw:way.length=n) (hk:k<4):stR n (row++[way])=applyR (k:Nat) way (stR n row):=by
 refine (abZ _ _).ext ((abZ _ _).applyR hw) fun j hj i hi=>?_
 simp only[afb hj hi,aaI (abZ _ _) hw hj hi,ak3,afb hj hi,hr,Int.toNat_natCast]
theorem al7 {n:Nat}{row:List (List Int)}{cs:List Nat}(hl:cs.length=n):stR n (row++[cs.map fun J=>0])=stR n row:=by
 refine (abZ _ _).ext (abZ _ _) fun j hj i hi=>?_
 simp only[afb hj hi,afb hj hi,ak3]
 split
 ·rename_i e
  rw[ajM (by exact q71 ‹_›)]
  simp only[List.getD_eq_getElem?_getD,List.getElem?_map]
  cases cs[j]?<;>rfl
 ·rfl
noncomputable def lvS (cs:List Nat) (am:List Nat):Nat→List (Int × List (List Int))
 | 0=>[]
 | k+1=>if 0<am.getD k 0 then ((k:Int),agf cs (am.getD k 0))::lvS cs am k else lvS cs am k
theorem apR (vs:List VI) (am:List Nat):∀ k,aeC vs (lvl am k)=lvS (vs.map VI.count) am k:=by
 intro xX
 induction xX with
 | zero=>exact rfl
 | succ k ih=>
  unfold lvl lvS
  split
  ·show _::aeC vs (lvl am k)=_
   simp only[ih]; rfl
  ·exact ih
theorem al6 (cs:List Nat) (am:List Nat):∀ k:Nat,∀ q∈(lvS cs am k).map Prod.fst,0≤q∧q<(k:Int):=by
 intro xX
 induction xX with
 | zero=>refine @fun q m=>?_; cases m
 | succ k ih=>
  refine @fun q m=>?_
  unfold lvS at m
  split at m
  ·rcases List.mem_cons.mp m with rfl | m
   ·exact⟨Int.natCast_nonneg k,by show (k:Int)<_; simp +arith⟩
   ·have:=ih q m; lia
  ·have:=ih q m; lia
noncomputable def agX:List (List Nat):=acO.filter fun cs=>decide (2≤cs.length)
theorem adM {cs:List Nat}(h:cs∈acO) (h2:2≤cs.length):cs∈agX:=List.mem_filter.mpr ⟨h,by simpa using h2⟩
theorem afN:∀ cs∈agX,∀ a∈List.range 5,(agf cs a).isPerm (adk a cs)=true:=by decide +kernel
theorem agy {cs:List Nat}(hc:cs∈agX) {am:List Nat}(ha:∀ i,am.getD i 0≤4):∀ k,okL cs.length (lvS cs am k)
 | 0=>fun J m=>nomatch m
 | k+1=>fun p m o ho=>by
  unfold lvS at m
  split at m
  ·rcases List.mem_cons.mp m with rfl | m
   ·have h1:=(List.isPerm_iff.mp (afN cs hc _ (List.mem_range.mpr (Nat.lt_succ_of_le (ha k))))).mem_iff.mp ho
    exact acn cs _ o h1
   ·exact agy hc ha k p m o ho
  ·exact agy hc ha k p m o ho
noncomputable def Z0 (n:Nat):List (List Int):=stR n []
theorem ah6 {n:Nat}{c:List (Int × List Int)}{k:Nat}{o:List Int}{S:List (List Int)}(hc:okU n c) (hS:Shp n S) (ho:o.length=n) (hk:∀ p∈c,0≤p.1∧p.1<k):applyU c (applyR (k:Nat) o S)=applyR (k:Nat) o (applyU c S):=by
 refine ((hS.applyR ho).applyU hc).ext ((hS.applyU hc).applyR ho) fun j hj i hi=>?_
 simp only[aaI (hS.applyU hc) ho hj hi,Int.toNat_natCast]
 by_cases e:i=k
 ·rw[if_pos e,ah7 hj hi hc (hS.applyR ho) (fun p m=>by have:=hk p m; lia),aaI hS ho hj hi,if_pos (by rw[Int.toNat_natCast]; exact e)]
 ·rw[if_neg e]
  refine aiZ hj hi hc (hS.applyR ho) hS fun J=>?_
  rw[aaI hS ho hj hi,if_neg (by rw[Int.toNat_natCast]; exact e)]
theorem ahd (cs l:List Nat) (a:Nat):aav cs (l++[a])=ab6 cs (aav cs l) a:=by unfold aav; rw[List.foldl_append]; rfl
theorem afp (cs l:List Nat):∀ r∈aav cs l,r.length=l.length:=by
 have h:=ade cs l [[]] 0 fun r m=>by rw[List.mem_singleton.mp m]; rfl
 intro r m
 have:=h r m
 lia
theorem akn {α β:Type}{f g:α→List β}:∀ {l:List α},(∀ a∈l,(f a).Perm (g a))→(l.flatMap f).Perm (l.flatMap g):=by
 intro xX
 induction xX with
 | nil=>exact @fun J=>.refl _
 | cons a l ih=>
  refine @fun h=>?_
  exact (h a (.head _)).append (ih fun b m=>h b (.tail _ m))
theorem agW {cs:List Nat}(hc:cs∈agX) {am:List Nat}(h3:am.length≤3) (ha:∀ i,am.getD i 0≤4) (k:Nat):k≤am.length→((aav cs (am.take k)).map (stR cs.length)).Perm ((aiK (lvS cs am k)).map fun c=>applyU c (Z0 cs.length)):=by
 induction k with
 | zero=>
  intro _
  exact (List.take_zero)▸(.refl _)
 | succ k ih=>
  intro hk
  have ih:=ih (by exact q40 ‹_›)
  have hcA:cs∈acO:=(List.mem_filter.mp hc).1
  have ht:am.take (k+1)=am.take k++[am.getD k 0]:=by
   simp only[List.take_add_one,List.getElem?_eq_getElem (by assumption),List.getD_eq_getElem?_getD,List.getElem?_eq_getElem (by assumption)]; rfl
  have hrw:=afp cs (am.take k)
  have hkl:(am.take k).length=k:=by rw[List.length_take]; lia
  simp only[ht,ahd]
  have e1:(ab6 cs (aav cs (am.take k)) (am.getD k 0)).map (stR cs.length)=(adk (am.getD k 0) cs).flatMap fun way=>(aav cs (am.take k)).map fun r=>stR cs.length (r++[way]):=by
   unfold ab6
   rw[List.map_flatMap]
   simp only[List.map_map,Function.comp_def]
  rw[e1]
  unfold lvS
  split
  ·have hp:=List.isPerm_iff.mp (afN cs hc _ (List.mem_range.mpr (Nat.lt_succ_of_le (ha k))))
   have e2:((aiK ((((k:Nat):Int),agf cs (am.getD k 0))::lvS cs am k)).map fun c=>applyU c (Z0 cs.length))=(agf cs (am.getD k 0)).flatMap fun o=>(aiK (lvS cs am k)).map fun c=>applyU c (applyR (k:Nat) o (Z0 cs.length)):=by
    show (((agf cs (am.getD k 0)).flatMap fun o=>(aiK (lvS cs am k)).map ((((k:Nat):Int),o)::·)).map _)=_
    rw[List.map_flatMap]
    simp only[List.map_map,Function.comp_def]
    rfl
   simp only[e2]
   refine List.Perm.trans ?_ (hp.symm.flatMap_right _)
   refine akn fun way hw=>?_
   have hwl:=acn cs _ way hw
   have e3:(aav cs (am.take k)).map (fun r=>stR cs.length (r++[way]))=((aav cs (am.take k)).map (stR cs.length)).map (applyR (k:Nat) way):=by
    simp only[List.map_map]
    exact List.map_congr_left fun r hr=>anC (by rw[hrw r hr,hkl]) hwl (by lia)
   have e4:(aiK (lvS cs am k)).map (fun c=>applyU c (applyR (k:Nat) way (Z0 cs.length)))=((aiK (lvS cs am k)).map fun c=>applyU c (Z0 cs.length)).map (applyR (k:Nat) way):=by
    rw[List.map_map]
    refine List.map_congr_left fun c hcm=>?_
    obtain⟨h1,h2⟩:=akq (agy hc ha k) c hcm
    exact ah6 h1 (abZ _ _) hwl fun p m=>al6 cs am k p.1 ((h2)▸(List.mem_map_of_mem m))
   simp only[e3,e4]
   exact ih.map _
  ·rename_i h0
   have e0:am.getD k 0=0:=by lia
   simp only[e0,aki cs hcA,List.flatMap_cons,List.flatMap_nil,List.append_nil]
   have e3:(aav cs (am.take k)).map (fun r=>stR cs.length (r++[cs.map fun J=>0]))=(aav cs (am.take k)).map (stR cs.length):=List.map_congr_left fun r hr=>al7 rfl
   rw[e3]
   exact ih
noncomputable def ad0 (row:List (List Int)) (j:Nat):List Int:=(List.range 4).map fun i=>wAt row i j
theorem ahG {row:List (List Int)}(h:row.length≤3) (j:Nat):aej (ad0 row j)=aaH row j:=by
 match row,h with
 | [],_=>rfl
 | [a],_=>rfl
 | [a,b],_=>rfl
 | [a,b,c],_=>rfl
 | _::_::_::_::_,h=>simp at h
theorem ag5 {p:Nat→Bool}{m:Nat}:∀ t:Nat,(∀ k,m≤k→p k=false)→(List.range (m+t)).filter p=(List.range m).filter p:=by
 intro xX
 induction xX with
 | zero=>exact @fun J=>rfl
 | succ t ih=>
  refine @fun h=>?_
  simp only[← Nat.add_assoc,List.range_succ,List.filter_append,ih h,List.filter_cons,h (m+t) (Nat.le_add_right _ _)]
  simp
theorem ahJ (row:List (List Int)) (j:Nat) {k:Nat}(h:k<4):(ad0 row j).getD k 0=wAt row k j:=by
 unfold ad0
 simp[List.getD_eq_getElem?_getD,List.getElem?_map,List.getElem?_range h]
theorem ajn {row:List (List Int)}(h:row.length≤3) (j:Nat):afT (.ms (ad0 row j))=aga row j:=by
 have e1:(List.range 4).filter (fun k:Nat=>decide (0<(ad0 row j).getD k 0))=(List.range 4).filter (fun k:Nat=>decide (0<wAt row k j)):=by
  refine List.filter_congr fun k hk=>?_
  rw[ahJ row j (List.mem_range.mp hk)]
 have e2:(List.range 4).filter (fun k:Nat=>decide (0<wAt row k j))=(List.range row.length).filter (fun k:Nat=>decide (0<wAt row k j)):=by
  have e4:4=row.length+(4 - row.length):=by lia
  conv=>lhs; rw[e4]
  exact ag5 _ fun k hk=>by rw[ajM hk]; rfl
 unfold afT aga anL
 dsimp only
 rw[e1,List.map_map]
 refine congrArg PyData.list ?_
 have e3:∀ k∈(List.range 4).filter (fun k:Nat=>decide (0<wAt row k j)),pD ((k:Int),(ad0 row j).getD k 0)=(pD∘fun k:Nat=>((k:Int),wAt row k j)) k:=fun k hk=>by
  rw[ahJ row j (List.mem_range.mp (List.mem_filter.mp hk).1)]; rfl
 rw[List.map_congr_left e3,e2]
theorem ai6 {row:List (List Int)}(h:row.length≤3) (j:Nat) (v:VI):afT (aaX v (ad0 row j))=aor row j v.pv:=by
 unfold aaX aor
 rw[ahG h]
 show _=match v.dflt with | some d=>_ | none=>_
 cases v.dflt with
 | none=>exact ajn h j
 | some d=>
  dsimp only
  split
  ·rfl
  ·exact ajn h j
theorem alL {row:List (List Int)}(h:row.length≤3) (j:Nat) (v:VI):v.low (ad0 row j) = !acu row j v.pv:=by
 unfold VI.low acu
 rw[ahG h]
 show (!(v.dflt.isSome&&aaH row j==0)&&decide (aaH row j<v.min)) = !((v.dflt.isSome&&decide (aaH row j=0))||!(decide (aaH row j<v.min)))
 have:(aaH row j==0)=decide (aaH row j=0):=by
  rw[Bool.eq_iff_iff]; rfl
 cases v.dflt.isSome&&decide (aaH row j=0)<;>cases decide (aaH row j<v.min)<;>rfl
theorem adB {α:Type}(l:List α) (d:α):(List.range l.length).map (fun j=>(l.getD j d,j))=l.zipIdx:=by
 apply List.ext_getElem
 ·simp
 ·intro i h1 h2
  have h3:i<l.length:=by simpa using h1
  simp[List.getD_eq_getElem?_getD,List.getElem?_eq_getElem h3]
theorem ak4 {α β:Type}(l:List α) (f:Nat→β):l.zip ((List.range l.length).map f)=l.zipIdx.map fun p=>(p.1,f p.2):=by
 apply List.ext_getElem
 ·simp
 ·intro i h1 h2
  simp
theorem ahC (row:List (List Int)) (vars:List aaJ):adW row vars=vars.zipIdx.flatMap fun p=>act row p.2 p.1:=by
 simp only[← adB vars pv0,List.flatMap_map]; rfl
theorem alQ (row:List (List Int)) (vars:List aaJ):acz row vars=vars.zipIdx.all fun p=>acu row p.2 p.1:=by
 rw[← adB vars pv0,List.all_map]; rfl
theorem ah5 {α β γ:Type}(f:α→β) (q:β→Bool) (g:β→γ):∀ l:List α,((l.map f).filter q).map g=l.flatMap fun x=>if q (f x) then [g (f x)] else []:=by
 intro xX
 induction xX with
 | nil=>exact rfl
 | cons a l ih=>
  simp only[List.map_cons,List.filter_cons,List.flatMap_cons,← ih]
  split<;>simp_all
theorem afG {vs:List VI}{vars:List aaJ}(e:vs.map VI.pv=vars) {row:List (List Int)}(h:row.length≤3):(abI vs (stR vars.length row)).map abg=if acz row vars then some (.list (adW row vars)) else none:=by
 have hl:vars.length=vs.length:=by rw[← e,List.length_map]
 have hz:vs.zip (stR vars.length row)=vs.zipIdx.map fun p=>(p.1,ad0 row p.2):=by
  rw[hl]; exact ak4 vs (ad0 row)
 have hv:vars.zipIdx=vs.zipIdx.map fun p=>(p.1.pv,p.2):=by
  rw[← e]
  apply List.ext_getElem
  ·simp
  ·intro i h1 h2
   simp
 simp only[alQ,ahC,hv,List.all_map,List.flatMap_map]
 unfold abI
 rw[hz,List.any_map,List.map_map]
 have ha:(vs.zipIdx.any ((fun p:VI × List Int=>p.1.low p.2)∘fun p=>(p.1,ad0 row p.2))) = !(vs.zipIdx.all ((fun p:aaJ × Nat=>acu row p.2 p.1)∘fun p=>(p.1.pv,p.2))):=by
  rw[List.not_all_eq_any_not]
  refine congrArg (fun f=>vs.zipIdx.any f) (funext fun p=>?_)
  exact alL h p.2 p.1
 rw[ha]
 cases hg:vs.zipIdx.all ((fun p:aaJ × Nat=>acu row p.2 p.1)∘fun p=>(p.1.pv,p.2)) with
 | false=>rfl
 | true=>
  show some (abg _)=_
  unfold abg
  rw[ah5]
  refine congrArg some (congrArg PyData.list ?_)
  refine congrArg (fun f=>vs.zipIdx.flatMap f) (funext fun p=>?_)
  show (if p.1.name.isSome=true then [ang (p.1.name,aaX p.1 (ad0 row p.2))] else [])=act row p.2 p.1.pv
  unfold act ang
  show _=match p.1.name with | some n=>_ | none=>_
  rw[ai6 h]
  cases p.1.name<;>rfl
theorem ags:∀ vs:List VI,(vs.map VI.name).filter (·.isSome)=(aaE (vs.map VI.pv)).map some:=by
 intro xX
 induction xX with
 | nil=>exact rfl
 | cons v vs ih=>
  simp only[List.map_cons,List.map_cons,List.filter_cons]
  unfold aaE
  simp only[List.filterMap_cons]
  have hp:v.pv.name=v.name:=rfl
  simp only[hp]
  unfold aaE at ih
  cases v.name with
  | none=>exact ih
  | some n=>rw[if_pos (by rfl),ih]; rfl
theorem aeG {vs:List VI}{S:List (List Int)}{o:abD}(hl:S.length=vs.length) (h:abI vs S=some o):o.map (·.1)=(aaE (vs.map VI.pv)).map some:=by
 unfold abI at h
 split at h
 ·cases h
 ·cases h
  rw[← ags]
  have e:(vs.zip S).map (fun p=>p.1.name)=vs.map VI.name:=by
   apply List.ext_getElem
   ·simp[hl]
   ·intro i h1 h2; simp
  rw[← e]
  generalize vs.zip S=l
  induction l with
  | nil=>rfl
  | cons p l ih=>
   simp only[List.map_cons,List.filter_cons]
   cases p.1.name<;>simp_all
theorem ar7 {vs:List VI}{n:Nat}(h:vs.length=n):(vs.map fun J=>[0,0,0,0])=Z0 n:=by
 unfold Z0 stR
 apply List.ext_getElem
 ·simp[h]
 ·intro i h1 h2
  simp[wAt,List.range_succ]
structure ajI (am:List Nat):Prop where
 l3:am.length≤3
 s4:am.sum≤4
theorem ajI.le {am:List Nat}(h:ajI am) (i:Nat):am.getD i 0≤4:=by
 rw[List.getD_eq_getElem?_getD]
 cases e:am[i]? with
 | none=>exact Nat.zero_le _
 | some a=>exact Nat.le_trans (abJ (List.mem_of_getElem? e)) h.s4
structure acw (vars:List aaJ):Prop where
 vl:1≤vars.length∧vars.length≤3
 vc:∀ p∈vars,1≤p.count∧p.count≤3
 vn:(vars.map aaJ.name).Nodup
 nd:∀ p∈vars,p.name=none→p.dflt=none
 so:∀ p∈vars,(∀ n,p.name=some n→(PyData.str n).canLay0=true)∧∀ d,p.dflt=some d→(PyData.str d).canLay0=true
theorem acw.cs {vars:List aaJ}(h:acw vars):pcs vars∈acO:=aja (by unfold pcs; rw[List.length_map]; exact h.vl.1) (by unfold pcs; rw[List.length_map]; exact h.vl.2) fun c m=>by
 obtain⟨p,mp,rfl⟩:=List.mem_map.mp m
 exact h.vc p mp
theorem akh {vs:List VI}{vars:List aaJ}(e:vs.map VI.pv=vars):vs.map VI.count=pcs vars:=by rw[← e]; unfold pcs; rw[List.map_map]; rfl
theorem agp {vs:List VI}{vars:List aaJ}{am:List Nat}(e:vs.map VI.pv=vars) (ok:acw vars) (h2:2≤vars.length) (ha:ajI am) :
  afF (vs.map fun J=>[0,0,0,0]) (ab1 (aeC vs (aha am)))=(aiK (lvS (pcs vars) am am.length)).map fun c=>applyU c (Z0 (pcs vars).length):=by
 have hl:vs.length=(pcs vars).length:=by rw[← akh e,List.length_map]
 have hc:pcs vars∈agX:=adM ok.cs (by unfold pcs; rw[List.length_map]; exact h2)
 simp only[ajl am (adj ha.l3 ha.s4),apR,akh e,ar7 hl]
 exact ajK (n:=(pcs vars).length) _ _ _ (agy hc ha.le _) (abZ _ _) (abZ _ _) fun J J J J J=>rfl
theorem alw {vs:List VI}{vars:List aaJ}{am:List Nat}(e:vs.map VI.pv=vars) (ok:acw vars) (h2:2≤vars.length) (ha:ajI am):((acJ vs (aha am)).map abg).Perm (abX am vars):=by
 have hc:pcs vars∈agX:=adM ok.cs (by unfold pcs; rw[List.length_map]; exact h2)
 unfold acJ
 rw[agp e ok h2 ha]
 have hp:=agW hc ha.l3 ha.le am.length (Nat.le_refl _)
 rw[List.take_length] at hp
 refine ((hp.filterMap (abI vs)).map abg).symm.trans ?_
 have hn:(pcs vars).length=vars.length:=by unfold pcs; rw[List.length_map]
 rw[hn,List.map_filterMap,List.filterMap_map]
 have hw:∀ r∈aav (pcs vars) am,r.length≤3:=fun r m=>by rw[afp _ _ r m]; exact ha.l3
 have e2:(aav (pcs vars) am).filterMap ((fun S=>(abI vs S).map abg)∘stR vars.length)=abX am vars:=by
  unfold abX
  generalize aav (pcs vars) am=rows at hw
  induction rows with
  | nil=>rfl
  | cons r rows ih=>
   simp only[List.filterMap_cons,List.filter_cons]
   have e3:((fun S=>(abI vs S).map abg)∘stR vars.length) r=if acz r vars then some (.list (adW r vars)) else none:=afG e (hw r (.head _))
   rw[e3,ih fun q m=>hw q (.tail _ m)]
   cases acz r vars<;>rfl
 rw[e2]
theorem akj {vs:List VI}{vars:List aaJ}{am:List Nat}(e:vs.map VI.pv=vars) (ok:acw vars) (h2:2≤vars.length) (ha:ajI am):∀ o∈acJ vs (aha am),o.map (·.1)=(aaE vars).map some:=by
 intro o mo
 have hl:vs.length=(pcs vars).length:=by rw[← akh e,List.length_map]
 have hc:pcs vars∈agX:=adM ok.cs (by unfold pcs; rw[List.length_map]; exact h2)
 unfold acJ at mo
 rw[agp e ok h2 ha] at mo
 obtain⟨S,mS,hS⟩:=List.mem_filterMap.mp mo
 obtain⟨c,mc,rfl⟩:=List.mem_map.mp mS
 rw[← e]
 refine aeG ?_ hS
 simp only[hl]
 exact ((abZ _ _).applyU (akq (agy hc ha.le _) c mc).1).len
noncomputable def dvd (c:Nat) (am:List Nat):Bool:=am.all fun a=>a % c==0
noncomputable def aek (c:Nat) (am:List Nat):List (List Int):=am.map fun a=>[((a / c:Nat):Int)]
theorem ame:∀ am∈aaT,∀ c∈[1,2,3],aav [c] am=if dvd c am then [aek c am] else []:=by decide +kernel
theorem ano:∀ am∈aaT,∀ c∈([1,2,3]:List Nat),((lvl am am.length).all fun p=>p.2.fmod ((c:Nat):Int)==0)=dvd c am:=by decide +kernel
theorem aoy:∀ am∈aaT,∀ c∈[1,2,3],dvd c am=true→aeu (ajx c (lvl am am.length))=ad0 (aek c am) 0:=by decide +kernel
theorem ao8:∀ am∈aaT,∀ c∈[1,2,3],dvd c am=true→tot (ajx c (lvl am am.length))=aej (ad0 (aek c am) 0):=by decide +kernel
theorem ank:∀ am∈aaT,ajx 1 (lvl am am.length)=lvl am am.length∧dvd 1 am=true:=by decide +kernel
theorem alj:∀ am∈aaT,∀ c∈[1,2,3],tot (lvl am am.length)=0→dvd c am=true∧aej (ad0 (aek c am) 0)=0:=by decide +kernel
theorem div_pos:∀ am∈aaT,∀ c∈[1,2,3],tot (lvl am am.length)≠0→dvd c am=true→aej (ad0 (aek c am) 0)≠0:=by decide +kernel
theorem alX (v:VI) (s:List Int):abI [v] [s] = if v.low s then none else some (shw v (aaX v s)):=by
 unfold abI
 simp only[List.zip_cons_cons,List.zip_nil_right,List.any_cons,List.any_nil,Bool.or_false,List.map_cons,List.map_nil]
 split
 ·rfl
 ·refine congrArg some ?_
  unfold shw
  cases v.name<;>rfl
theorem aef {v:VI}{am:List Nat}(hv:v.name=none→v.dflt=none) (hc:v.count∈[1,2,3]) (h:am∈aaT) :
  aaY v (lvl am am.length)=if dvd v.count am then (abI [v] [ad0 (aek v.count am) 0]).toList else []:=by
 rw[alX]
 have d1:=ano am h _ hc
 have d2:=aoy am h _ hc
 have d3:=ao8 am h _ hc
 have d5:=alj am h _ hc
 have d6:=div_pos am h _ hc
 have hs2:abk v (lvl am am.length)=if dvd v.count am then (if (v.min:Int)≤aej (ad0 (aek v.count am) 0) then [shw v (.ms (ad0 (aek v.count am) 0))] else []) else []:=by
  unfold abk
  by_cases h1:v.count=1
  ·obtain⟨e1,e2⟩:=ank am h
   rw[h1] at d2 d3 ⊢
   rw[if_pos rfl,if_pos e2,← d3 e2,← d2 e2,e1]
  ·rw[if_neg h1,d1]
   cases hd:dvd v.count am with
   | false=>rfl
   | true=>rw[if_pos rfl,if_pos rfl,d3 hd,d2 hd]
 unfold aaY
 by_cases h0:tot (lvl am am.length)=0∧v.dflt.isSome=true
 ·rw[if_pos h0]
  obtain⟨e1,e2⟩:=d5 h0.1
  obtain⟨d,hd⟩:=Option.isSome_iff_exists.mp h0.2
  have hn:∃ n,v.name=some n:=by
   cases hn:v.name with
   | none=>rw[hv hn] at hd; cases hd
   | some n=>exact⟨n,rfl⟩
  obtain⟨n,hn⟩:=hn
  have hlow:v.low (ad0 (aek v.count am) 0)=false:=by unfold VI.low; rw[hd,e2]; rfl
  rw[if_pos e1,hlow,if_neg (by decide)]
  unfold shw aaX
  rw[hd,hn]
  dsimp only
  rw[if_pos e2]; rfl
 ·rw[if_neg h0,hs2]
  cases hd:dvd v.count am with
  | false=>rfl
  | true=>
   rw[if_pos rfl,if_pos rfl]
   have hg:aaX v (ad0 (aek v.count am) 0)=.ms (ad0 (aek v.count am) 0)∧v.low (ad0 (aek v.count am) 0)=decide (aej (ad0 (aek v.count am) 0)<v.min):=by
    unfold aaX VI.low
    cases hdf:v.dflt with
    | none=>exact⟨rfl,by rfl⟩
    | some x=>
     have h1:tot (lvl am am.length)≠0:=fun e=>h0 ⟨e,by rw[hdf]; rfl⟩
     have h2:=d6 h1 hd
     dsimp only
     rw[if_neg h2]
     refine⟨rfl,?_⟩
     have:(aej (ad0 (aek v.count am) 0)==0)=false:=by simpa using h2
     rw[this]; rfl
   rw[hg.1,hg.2]
   by_cases hm:(v.min:Int)≤aej (ad0 (aek v.count am) 0)
   ·rw[if_pos hm,if_neg (by rw[decide_eq_true_eq]; lia)]; rfl
   ·rw[if_neg hm,if_pos (by rw[decide_eq_true_eq]; lia)]; rfl
theorem aiq {v:VI}{am:List Nat}(hv:v.name=none→v.dflt=none) (hc:v.count∈[1,2,3]) (h:am∈aaT) (hl:am.length≤3):(aaY v (lvl am am.length)).map abg=abX am [v.pv]:=by
 rw[aef hv hc h]
 show _=((aav [v.count] am).filter _).map _
 rw[ame am h _ hc]
 split
 ·have hp:=afG (vs:=[v]) (vars:=[v.pv]) rfl (row:=aek v.count am) (by unfold aek; rw[List.length_map]; exact hl)
  have e:stR [v.pv].length (aek v.count am)=[ad0 (aek v.count am) 0]:=rfl
  rw[e] at hp
  rw[List.filter_cons]
  cases hq:abI [v] [ad0 (aek v.count am) 0] with
  | none=>
   rw[hq] at hp
   cases hg:acz (aek v.count am) [v.pv] with
   | false=>rfl
   | true=>rw[hg] at hp; cases hp
  | some o=>
   rw[hq] at hp
   cases hg:acz (aek v.count am) [v.pv] with
   | false=>rw[hg] at hp; cases hp
   | true=>
    rw[hg,if_pos rfl] at hp
    have:=Option.some.inj hp
    show[abg o] = [_]
    rw[this]
 ·rfl
theorem ag4 {v:VI}{am:List Nat}(hv:v.name=none→v.dflt=none) (hc:v.count∈[1,2,3]) (h:am∈aaT):∀ o∈aaY v (lvl am am.length),o.map (·.1)=(aaE [v.pv]).map some:=by
 intro o mo
 rw[aef hv hc h] at mo
 split at mo
 ·exact aeG (vs:=[v]) rfl (Option.mem_toList.mp mo)
 ·cases mo
noncomputable def rkL (f:PyData→Nat) (B:Nat):Nat→List PyData→Nat
 | 0,_=>0
 | _+1,[]=>0
 | n+1,x::xs=>f x * B ^ n+rkL f B n xs
structure Lex (g:PyData→PyData→Option Bool) (f:PyData→Nat) (B:Nat) (x y:PyData):Prop where
 px:1≤f x∧f x<B
 py:1≤f y∧f y<B
 eqv:PyData.eqv x y=decide (f x=f y)
 lt:f x≠f y→g x y=some (decide (f x<f y))
 inj:f x=f y→x=y
noncomputable def anc (C:Nat→PyData→Prop) (i:Nat) (xs:List PyData):Prop:=∀ (j:Nat) x,xs[j]? = some x→C (i+j) x
theorem anc.tail {C:Nat→PyData→Prop}{i:Nat}{x:PyData}{xs:List PyData}(h:anc C i (x::xs)):C i x∧anc C (i+1) xs:=
 ⟨h 0 x rfl,fun j y e=>by have:=h (j+1) y (by simpa using e); rwa [show i+(j+1)=i+1+j by exact q25] at this⟩
structure asG (g:PyData→PyData→Option Bool) (xs ys:List PyData) (a b M:Nat):Prop where
 ba:a<M
 bb:b<M
 lt:ajg g xs ys=some (decide (a<b))
 eqv:PyData.eqvAll xs ys=decide (a=b)
 inj:a=b→xs=ys
theorem aft {a b M r q:Nat}(h:a<b) (hr:r<M):a * M+r<b * M+q:=by
 have h1:(a+1) * M≤b * M:=Nat.mul_le_mul_right M h
 rw[Nat.add_mul,Nat.one_mul] at h1
 exact Nat.lt_of_lt_of_le (Nat.add_lt_add_left hr _) (Nat.le_trans h1 (Nat.le_add_right _ _))
theorem apd {g:PyData→PyData→Option Bool}{f:PyData→Nat}{B:Nat}{C:Nat→PyData→Prop}(hB:1≤B) (h:∀ i x y,C i x→C i y→Lex g f B x y) (n:Nat):∀ (i:Nat) (xs:List PyData),xs.length≤n→anc C i xs→rkL f B n xs<B ^ n:=by
 induction n with
 | zero=>
  intro i xs h1 _
  obtain rfl:=List.eq_nil_of_length_eq_zero (Nat.le_zero.mp h1)
  exact Nat.pow_pos hB
 | succ n ih=>
  intro i xs h1 hx
  cases xs with
  | nil=>exact Nat.pow_pos hB
  | cons x xs=>
   rw[Nat.pow_succ,Nat.mul_comm (B ^ n)]
   exact aft (q:=0) (h i x x hx.tail.1 hx.tail.1).px.2 (ih _ xs (Nat.le_of_succ_le_succ h1) hx.tail.2)
theorem amn {f:PyData→Nat}{B n:Nat}{x:PyData}{xs:List PyData}(hB:1≤B) (h:1≤f x):0<f x * B ^ n+rkL f B n xs:=Nat.lt_of_lt_of_le (Nat.mul_pos h (Nat.pow_pos hB)) (Nat.le_add_right _ _)
theorem aml {g:PyData→PyData→Option Bool}{f:PyData→Nat}{B:Nat}{C:Nat→PyData→Prop}(hB:1≤B) (h:∀ i x y,C i x→C i y→Lex g f B x y) (n:Nat) :
  ∀ (i:Nat) (xs ys:List PyData),xs.length≤n→ys.length≤n→anc C i xs→anc C i ys→asG g xs ys (rkL f B n xs) (rkL f B n ys) (B ^ n):=by
 induction n with
 | zero=>
  intro i xs ys h1 h2 _ _
  obtain rfl:=List.eq_nil_of_length_eq_zero (Nat.le_zero.mp h1)
  obtain rfl:=List.eq_nil_of_length_eq_zero (Nat.le_zero.mp h2)
  exact⟨Nat.pow_pos hB,Nat.pow_pos hB,rfl,rfl,fun J=>rfl⟩
 | succ n ih=>
  intro i xs ys h1 h2 hx hy
  have bx:=apd hB h (n+1) i xs h1 hx
  have by':=apd hB h (n+1) i ys h2 hy
  cases xs with
  | nil=>
   cases ys with
   | nil=>exact⟨bx,by',rfl,rfl,fun J=>rfl⟩
   | cons y ys=>
    have hp:0<rkL f B (n+1) (y::ys):=amn hB (h i y y hy.tail.1 hy.tail.1).px.1
    exact⟨bx,by',congrArg some (decide_eq_true hp).symm,(decide_eq_false (Nat.ne_of_lt hp)).symm,fun q=>absurd q (Nat.ne_of_lt hp)⟩
  | cons x xs=>
   cases ys with
   | nil=>
    have hp:0<rkL f B (n+1) (x::xs):=amn hB (h i x x hx.tail.1 hx.tail.1).px.1
    exact⟨bx,by',congrArg some (decide_eq_false (Nat.not_lt_zero _)).symm,(decide_eq_false (Nat.ne_of_gt hp)).symm,fun q=>absurd q (Nat.ne_of_gt hp)⟩
   | cons y ys=>
    have L:=h i x y hx.tail.1 hy.tail.1
    have R:=ih (i+1) xs ys (Nat.le_of_succ_le_succ h1) (Nat.le_of_succ_le_succ h2) hx.tail.2 hy.tail.2
    have le:ajg g (x::xs) (y::ys)=if PyData.eqv x y=true then ajg g xs ys else g x y:=rfl
    have ee:PyData.eqvAll (x::xs) (y::ys)=(PyData.eqv x y&&PyData.eqvAll xs ys):=by simp only[PyData.eqvAll]
    rw[L.eqv] at le ee
    rcases Nat.lt_trichotomy (f x) (f y) with c | c | c
    ·have s:rkL f B (n+1) (x::xs)<rkL f B (n+1) (y::ys):=aft c R.ba
     have ne:=Nat.ne_of_lt c
     rw[decide_eq_false ne] at le ee
     exact⟨bx,by',le.trans ((L.lt ne).trans (by rw[decide_eq_true c,decide_eq_true s])),ee.trans (decide_eq_false (Nat.ne_of_lt s)).symm,fun q=>absurd q (Nat.ne_of_lt s)⟩
    ·have e:∀ m,f x * B ^ n+m=f y * B ^ n+m:=fun m=>by rw[c]
     rw[decide_eq_true c] at le ee
     have ex:rkL f B (n+1) (x::xs)=f y * B ^ n+rkL f B n xs:=e _
     have ey:rkL f B (n+1) (y::ys)=f y * B ^ n+rkL f B n ys:=rfl
     rw[ex] at bx ⊢
     refine⟨bx,by',le.trans (R.lt.trans (congrArg some (decide_eq_decide.mpr (Nat.add_lt_add_iff_left).symm))),ee.trans ((Bool.true_and _).trans (R.eqv.trans (decide_eq_decide.mpr (Nat.add_left_cancel_iff).symm))),fun q=>?_⟩
     rw[L.inj c,R.inj (Nat.add_left_cancel q)]
    ·have s:rkL f B (n+1) (y::ys)<rkL f B (n+1) (x::xs):=aft c R.bb
     have ne:=Nat.ne_of_gt c
     rw[decide_eq_false ne] at le ee
     exact⟨bx,by',le.trans ((L.lt ne).trans (by rw[decide_eq_false (Nat.lt_asymm c),decide_eq_false (Nat.lt_asymm s)])),ee.trans (decide_eq_false (Nat.ne_of_gt s)).symm,fun q=>absurd q (Nat.ne_of_gt s)⟩
noncomputable def amj:PyData→Nat
 | .tuple [.int k,.int c]=>8 * k.toNat+c.toNat+1
 | .tuple [.int _,.str _]=>1
 | _=>0
noncomputable def CG (d:Option Str) (x:PyData):Prop:=(∃ dd,d=some dd∧x=.tuple [.int (-1),.str dd])∨∃ k c:Nat,k≤2∧1≤c∧c≤4∧x=.tuple [.int (k:Int),.int (c:Int)]
theorem acX (a b c d:PyData):PyData.eqv (.tuple [a,b]) (.tuple [c,d])=(PyData.eqv a c&&PyData.eqv b d):=by
 simp only[PyData.eqv,PyData.eqvAll,PyData.eqvAll,PyData.eqvAll,Bool.and_true]
theorem afv (a b:Int):PyData.eqv (.int a) (.int b)=(a==b):=by simp only[PyData.eqv]
theorem ahe (a:Str):PyData.eqv (.str a) (.str a)=true:=by simp only[PyData.eqv]; simp
theorem af3 (n:Nat) (a b c d:PyData):ltF (n+1) (.tuple [a,b]) (.tuple [c,d])=if PyData.eqv a c=true then (if PyData.eqv b d=true then some false else ltF n b d) else ltF n a c:=rfl
theorem lt_int (n:Nat) (a b:Int):ltF (n+1) (.int a) (.int b)=some (decide (a<b)):=rfl
theorem afZ {g:PyData→PyData→Option Bool}{f:PyData→Nat}{B a b:Nat}{x y:PyData}(ha:f x=a) (hb:f y=b) (h1:1≤a∧a<B) (h2:1≤b∧b<B) (he:PyData.eqv x y=decide (a=b)) (hl:a≠b→g x y=some (decide (a<b))) (hi:a=b→x=y):Lex g f B x y:=by
 subst ha hb; exact⟨h1,h2,he,hl,hi⟩
theorem dg1 {k c:Nat}(h:k≤2) (h':c≤4):1≤8 * k+c+1∧8 * k+c+1<32:=⟨Nat.succ_le_succ (Nat.zero_le _),Nat.lt_of_le_of_lt (Nat.succ_le_succ (Nat.add_le_add (Nat.mul_le_mul_left 8 h) h')) (by decide)⟩
theorem dg2 {k c k' c':Nat}(h:c≤4) (h':c'≤4) (e:8 * k+c+1=8 * k'+c'+1):k=k'∧c=c':=by lia
theorem dg3 {k c k' c':Nat}(h:c≤4) (h':c'≤4) (n:k≠k'):k<k'↔8 * k+c+1<8 * k'+c'+1:=by lia
theorem ak8 (k:Nat):PyData.eqv (.int (-1)) (.int (k:Int))=false:=by rw[afv]; rfl
theorem aj2 (k:Nat):PyData.eqv (.int (k:Int)) (.int (-1))=false:=by rw[afv]; rfl
theorem afl (k c:Nat):PyData.eqv (.int (k:Int)) (.int (c:Int))=decide (k=c):=by
 rw[afv,Bool.eq_iff_iff,beq_iff_eq,decide_eq_true_eq]; exact Int.ofNat_inj
theorem atX (d:Option Str) {x y:PyData}(hx:CG d x) (hy:CG d y):Lex (ltF 6) amj 32 x y:=by
 rcases hx with⟨u,hu,rfl⟩ | ⟨k,c,h2,h3,h4,rfl⟩<;>rcases hy with⟨v,hv,rfl⟩ | ⟨k',c',g2,g3,g4,rfl⟩
 ·rw[hu] at hv
  cases hv
  refine afZ (a:=1) (b:=1) rfl rfl (by decide) (by decide) ?_ (fun e=>(e rfl).elim) fun J=>rfl
  rw[acX,afv,ahe]; rfl
 ·have n:1<8 * k'+c'+1:=Nat.succ_lt_succ (Nat.lt_of_lt_of_le g3 (Nat.le_add_left _ _))
  refine afZ (a:=1) (b:=8 * k'+c'+1) rfl rfl (by decide) (dg1 g2 g4) ?_ (fun J=>?_) fun q=>(Nat.ne_of_lt n q).elim
  ·simp only[acX,ak8,decide_eq_false (Nat.ne_of_lt n)]; rfl
  ·simp only[af3,ak8,if_neg Bool.false_ne_true,lt_int,decide_eq_true n]; rfl
 ·have n:1<8 * k+c+1:=Nat.succ_lt_succ (Nat.lt_of_lt_of_le h3 (Nat.le_add_left _ _))
  refine afZ (a:=8 * k+c+1) (b:=1) rfl rfl (dg1 h2 h4) (by decide) ?_ (fun J=>?_) fun q=>(Nat.ne_of_lt n q.symm).elim
  ·simp only[acX,aj2,decide_eq_false (Nat.ne_of_lt n).symm]; rfl
  ·simp only[af3,aj2,if_neg Bool.false_ne_true,lt_int,decide_eq_false (Nat.lt_asymm n)]; rfl
 ·refine afZ (a:=8 * k+c+1) (b:=8 * k'+c'+1) rfl rfl (dg1 h2 h4) (dg1 g2 g4) ?_ (fun q=>?_) fun q=>?_
  ·rw[acX,afl,afl,Bool.eq_iff_iff,Bool.and_eq_true,decide_eq_true_eq,decide_eq_true_eq,decide_eq_true_eq]
   exact⟨fun e=>by rw[e.1,e.2],dg2 h4 g4⟩
  ·simp only[af3,afl,afl,lt_int,lt_int]
   by_cases e1:k=k'
   ·subst e1
    rw[if_pos (decide_eq_true rfl),if_neg fun e=>q (by rw[of_decide_eq_true e])]
    exact congrArg some (decide_eq_decide.mpr (Int.ofNat_lt.trans (by simp +arith)))
   ·rw[if_neg fun e=>e1 (of_decide_eq_true e)]
    exact congrArg some (decide_eq_decide.mpr (Int.ofNat_lt.trans (dg3 h4 g4 e1)))
  ·obtain⟨rfl,rfl⟩:=dg2 h4 g4 q
   rfl
noncomputable def amE:PyData→Nat
 | .tuple [.str _,.list xs]=>1+rkL amj 32 3 xs
 | _=>0
noncomputable def CE (p:Str × Option Str) (e:PyData):Prop:=∃ xs,e=.tuple [.str p.1,.list xs]∧xs.length≤3∧∀ x∈xs,CG p.2 x
theorem aty (d:Option Str) {xs ys:List PyData}(h1:xs.length≤3) (h2:ys.length≤3) (hx:∀ x∈xs,CG d x) (hy:∀ y∈ys,CG d y):asG (ltF 6) xs ys (rkL amj 32 3 xs) (rkL amj 32 3 ys) (32 ^ 3):=
 aml (C:=fun J=>CG d) (by decide) (fun J x y a b=>atX d a b) 3 0 xs ys h1 h2 (fun j x e=>hx x (List.mem_of_getElem? e)) (fun j x e=>hy x (List.mem_of_getElem? e))
theorem au9 (p:Str × Option Str) {e e':PyData}(h:CE p e) (h':CE p e'):Lex (ltF 8) amE 40000 e e':=by
 obtain⟨xs,rfl,hl,hx⟩:=h
 obtain⟨ys,rfl,hl',hy⟩:=h'
 have R:=aty p.2 hl hl' hx hy
 have h1:=R.ba
 have h2:=R.bb
 have ee:PyData.eqv (.list xs) (.list ys)=decide (rkL amj 32 3 xs=rkL amj 32 3 ys):=by simp only[PyData.eqv]; exact R.eqv
 refine afZ (a:=1+rkL amj 32 3 xs) (b:=1+rkL amj 32 3 ys) rfl rfl ⟨by exact q48,by exact q55 ‹_›⟩ ⟨by exact q48,by exact q55 ‹_›⟩ ?_ (fun q=>?_) fun q=>?_
 ·rw[acX,ahe,Bool.true_and,ee,decide_eq_decide]; simp +arith
 ·rw[af3,ahe,if_pos rfl,ee,if_neg (by rw[decide_eq_true_eq]; lia)]
  show ajg (ltF 6) xs ys=_
  rw[R.lt]
  refine congrArg some ?_
  rw[decide_eq_decide]; simp +arith
 ·rw[R.inj (by lia)]
noncomputable def aoR (vars:List aaJ):List (Str × Option Str):=vars.filterMap fun p=>p.name.map fun n=>(n,p.dflt)
theorem aqd (vars:List aaJ):(aoR vars).length≤vars.length:=List.length_filterMap_le ..
noncomputable def rho:PyData→Int
 | .list es=>((rkL amE 40000 3 es:Nat):Int)
 | _=>0
theorem anI {row:List (List Int)}(h:row.length≤3) (hw:∀ i j,wAt row i j≤4) (j:Nat) (d:Option Str):((anL row j).map pD).length≤3∧∀ x∈(anL row j).map pD,CG d x:=by
 constructor
 ·unfold anL
  rw[List.length_map,List.length_map]
  exact Nat.le_trans (List.length_filter_le ..) (by rw[List.length_range]; exact h)
 ·intro x hx
  obtain⟨q,hq,rfl⟩:=List.mem_map.mp hx
  obtain⟨k,hk,rfl⟩:=List.mem_map.mp hq
  obtain⟨h1,h2⟩:=List.mem_filter.mp hk
  have h1:=List.mem_range.mp h1
  have h3:=hw k j
  exact .inr ⟨k,(wAt row k j).toNat,by lia,by lia,by lia,by rw[Int.toNat_of_nonneg (by lia)]; rfl⟩
theorem aoh {row:List (List Int)}(h:row.length≤3) (hw:∀ i j,wAt row i j≤4) (j:Nat) {p:aaJ}{n:Str}(hn:p.name=some n):∃ e,act row j p=[e]∧CE (n,p.dflt) e:=by
 unfold act
 rw[hn]
 refine⟨_,rfl,?_⟩
 obtain⟨g1,g2⟩:=anI h hw j p.dflt
 have base:CE (n,p.dflt) (.tuple [.str n,aga row j]):=⟨_,rfl,g1,g2⟩
 unfold aor
 cases hd:p.dflt with
 | none=>rw[hd] at base; exact base
 | some d=>
  rw[hd] at base
  dsimp only
  split
  ·exact⟨[.tuple [.int (-1),.str d]],rfl,(show 1≤3 by decide),fun x hx=>.inl ⟨d,rfl,List.mem_singleton.mp hx⟩⟩
  ·exact base
theorem anO {row:List (List Int)}(h:row.length≤3) (hw:∀ i j,wAt row i j≤4):∀ (vars:List aaJ) (k:Nat),((vars.zipIdx k).flatMap fun p=>act row p.2 p.1).length=(aoR vars).length∧∀ (j:Nat) e,((vars.zipIdx k).flatMap fun p=>act row p.2 p.1)[j]? = some e→∃ q,(aoR vars)[j]? = some q∧CE q e:=by
 intro xX
 induction xX with
 | nil=>exact @fun J=>⟨rfl,fun j e x=>by simp at x⟩
 | cons p vars ih=>
  refine @fun k=>?_
  obtain⟨i1,i2⟩:=ih (k+1)
  simp only[List.zipIdx_cons,List.flatMap_cons]
  unfold aoR at i1 i2 ⊢
  simp only[List.filterMap_cons]
  cases hn:p.name with
  | none=>
   have e:act row k p=[]:=by unfold act; rw[hn]
   rw[e]
   exact⟨i1,i2⟩
  | some n=>
   obtain⟨e,he,hc⟩:=aoh h hw k hn
   rw[he]
   refine⟨by simp[i1],fun j e' x=>?_⟩
   cases j with
   | zero=>
    simp at x
    subst x
    exact⟨_,rfl,hc⟩
   | succ j=>exact i2 j e' (by simpa using x)
theorem aoF:∀ cs∈acO,∀ a∈List.range 5,((adk a cs).all fun w=>w.all fun x=>decide (x≤4))=true:=by decide +kernel
theorem ahO {cs:List Nat}{P:List Int→Prop}:∀ (am:List Nat) (rs:List (List (List Int))),(∀ a∈am,∀ way∈adk a cs,P way)→(∀ r∈rs,∀ x∈r,P x)→∀ r∈am.foldl (ab6 cs) rs,∀ x∈r,P x
 | [],rs,_,h=>h
 | a::am,rs,hw,h=>ahO am (ab6 cs rs a) (fun b m=>hw b (.tail _ m)) fun r hr x hx=>by
  obtain⟨way,hway,hr⟩:=List.mem_flatMap.mp hr
  obtain⟨y,hy,rfl⟩:=List.mem_map.mp hr
  rcases List.mem_append.mp hx with hx | hx
  ·exact h y hy x hx
  ·rw[List.mem_singleton.mp hx]; exact hw a (.head _) way hway
theorem alf {cs am:List Nat}(hc:cs∈acO) (ha:ajI am):∀ r∈aav cs am,∀ i j,wAt r i j≤4:=by
 intro r mr i j
 have h:=ahO (cs:=cs) (P:=fun w=>∀ x∈w,x≤4) am [[]] (fun a m w mw x mx=>by
  have:=List.all_eq_true.mp (aoF cs hc a (List.mem_range.mpr (Nat.lt_succ_of_le (Nat.le_trans (abJ m) ha.s4)))) w mw
  have:=List.all_eq_true.mp this x mx
  exact of_decide_eq_true this) (fun r m=>by rw[List.mem_singleton.mp m]; exact fun J m=>nomatch m) r mr
 unfold wAt
 rw[List.getD_eq_getElem?_getD,List.getD_eq_getElem?_getD]
 cases e:r[i]? with
 | none=>exact (by decide:(0:Int)≤4)
 | some w=>
  show (w[j]?).getD 0≤4
  cases e2:w[j]? with
  | none=>exact (by decide:(0:Int)≤4)
  | some x=>exact h w (List.mem_of_getElem? e) x (List.mem_of_getElem? e2)
noncomputable def CR (nv:List (Str × Option Str)) (i:Nat) (e:PyData):Prop:=∃ q,nv[i]? = some q∧CE q e
theorem ajC {vars:List aaJ}{am:List Nat}(ok:acw vars) (ha:ajI am):∀ d∈abX am vars,∃ es,d=.list es∧es.length≤3∧anc (CR (aoR vars)) 0 es:=by
 intro d hd
 obtain⟨row,mr,rfl⟩:=List.mem_map.mp hd
 have mr:=(List.mem_filter.mp mr).1
 obtain⟨h1,h2⟩:=anO (row:=row) (by rw[afp _ _ row mr]; exact ha.l3) (alf ok.cs ha row mr) vars 0
 rw[← ahC] at h1 h2
 exact⟨_,rfl,by rw[h1]; exact Nat.le_trans (aqd vars) ok.vl.2,fun j x e=>by rw[Nat.zero_add]; exact h2 j x e⟩
theorem ala {vars:List aaJ}{am:List Nat}(ok:acw vars) (ha:ajI am):ahM rho (abX am vars):=by
 have key:∀ d∈abX am vars,∀ e∈abX am vars,∃ xs ys,d=.list xs∧e=.list ys∧asG (ltF 8) xs ys (rkL amE 40000 3 xs) (rkL amE 40000 3 ys) (40000 ^ 3):=fun d hd e he=>by
  obtain⟨xs,rfl,hl,hx⟩:=ajC ok ha d hd
  obtain⟨ys,rfl,hl',hy⟩:=ajC ok ha e he
  refine⟨xs,ys,rfl,rfl,aml (by decide) (fun i x y ⟨q,hq,cx⟩ ⟨q',hq',cy⟩=>?_) 3 0 xs ys hl hl' hx hy⟩
  rw[hq] at hq'
  cases hq'
  exact au9 q cx cy
 refine⟨fun d hd e he=>?_,fun d hd e he q=>?_⟩
 ·obtain⟨xs,ys,rfl,rfl,R⟩:=key d hd e he
  show ajg (ltF 8) xs ys=some (decide ((rkL amE 40000 3 xs:Nat)<((rkL amE 40000 3 ys:Nat):Int)))
  rw[R.lt]
  refine congrArg some ?_
  simp +arith
 ·obtain⟨xs,ys,rfl,rfl,R⟩:=key d hd e he
  have q:((rkL amE 40000 3 xs:Nat):Int)=((rkL amE 40000 3 ys:Nat):Int):=q
  rw[R.inj (by lia)]
theorem dpI (i:Int) (n:Nat):dp n (.int i):=⟨rfl,Nat.zero_le _⟩
theorem dpS {x:Str}(h:(PyData.str x).canLay0=true) (n:Nat):dp n (.str x):=⟨h,Nat.zero_le _⟩
theorem dp2 {n:Nat}{a b:PyData}(h1:dp n a) (h2:dp n b):dp (n+1) (.tuple [a,b]):=dpT fun d m=>by
 simp only[List.mem_cons,List.not_mem_nil,or_false] at m
 rcases m with rfl | rfl<;>assumption
theorem aqo {vars:List aaJ}{q:Str × Option Str}(h:q∈aoR vars):∃ p∈vars,p.name=some q.1∧p.dflt=q.2:=by
 obtain⟨p,mp,e⟩:=List.mem_filterMap.mp h
 obtain⟨n,hn,rfl⟩:=Option.map_eq_some_iff.mp e
 exact⟨p,mp,hn,rfl⟩
theorem aqG {vars:List aaJ}{am:List Nat}(ok:acw vars) (ha:ajI am):∀ d∈abX am vars,aic d=true∧dp 20 d:=by
 intro d hd
 obtain⟨es,rfl,hl,hx⟩:=ajC ok ha d hd
 refine⟨rfl,dpL (n:=19) fun e me=>?_⟩
 obtain⟨j,hj⟩:=List.mem_iff_getElem?.mp me
 obtain⟨q,hq,xs,rfl,hxl,hxs⟩:=hx j e hj
 obtain⟨p,mp,h1,h2⟩:=aqo (List.mem_of_getElem? hq)
 refine dp2 (dpS ((ok.so p mp).1 _ h1) 18) (dpL (n:=17) fun x mx=>?_)
 rcases hxs x mx with⟨dd,hd,rfl⟩ | ⟨k,c,_,_,_,_,rfl⟩
 ·exact dp2 (dpI _ _) (dpS ((ok.so p mp).2 dd ((h2)▸(hd))) _)
 ·exact dp2 (dpI _ _) (dpI _ _)
theorem alk {am:List Nat}{vars:List aaJ}(ha:ajI am) (ok:acw vars):aiu am vars:=by
 have hm:=adj ha.l3 ha.s4
 have hb:=ajl am hm
 obtain⟨n1,n2,n3⟩:=ak6 (aoE am hm)
 have hr:=fun i=>ai2 ok.cs ha.l3 ha.s4 i
 have hcs:∀ {vs:List VI},vs.map VI.pv=vars→∀ v∈vs,v.count∈[1,2,3]∧(v.name=none→v.dflt=none):=fun e v mv=>
  have mp:=ag7 e mv
  ⟨ae2 (ok.vc _ mp),ok.nd _ mp⟩
 have split:∀ {vs:List VI},vs.map VI.pv=vars→(∃ v,vs=[v]∧vars=[v.pv]∧abw vs (aha am)=aaY v (aha am))∨(2≤vars.length∧abw vs (aha am)=acJ vs (aha am)):=fun {vs} e=>by
  have hl:vs.length=vars.length:=by rw[← e,List.length_map]
  match vs,e,hl with
  | [],_,hl=>have:=ok.vl.1; rw[← hl] at this; simp at this
  | [v],e,_=>exact .inl ⟨v,rfl,e.symm,rfl⟩
  | a::b::r,e,hl=>exact .inr ⟨by rw[← hl]; simp,rfl⟩
 refine⟨ha.s4,ha.l3,?_,?_,?_,?_,fun ps hp hs=>apc hm hp hs,ok.vl,ok.vc,ok.vn,fun i=>Nat.le_trans (hr i) (by decide),fun vs e=>?_,fun vs e=>?_,?_,aqG ok ha,rho,ala ok ha⟩
 ·show aco (aha am); rw[hb]; exact n1
 ·show ∀ p∈aha am,p.2≤4; rw[hb]; exact n2
 ·show (aha am).length≤3; rw[hb]; exact n3
 ·show tot (aha am)=_; rw[hb]; exact aqp am hm
 ·show ∀ o∈abw vs (aha am),_
  rcases split e with⟨v,rfl,ev,ec⟩ | ⟨h2,ec⟩
  ·obtain⟨c1,c2⟩:=hcs e v (.head _)
   rw[ec,hb,ev]
   exact ag4 c2 c1 hm
  ·rw[ec]; exact akj e ok h2 ha
 ·show ((abw vs (aha am)).map abg).Perm _
  rcases split e with⟨v,rfl,ev,ec⟩ | ⟨h2,ec⟩
  ·obtain⟨c1,c2⟩:=hcs e v (.head _)
   rw[ec,hb,ev,aiq c2 c1 hm ha.l3]
  ·rw[ec]; exact alw e ok h2 ha
 ·unfold abX
  rw[List.length_map]
  have:=hr am.length
  rw[List.take_length] at this
  exact Nat.lt_of_le_of_lt (List.length_filter_le ..) (by lia)
theorem aq9 (script:List Int):ajI (agk script):=by
 refine⟨?_,ak0 _ [] (by decide)⟩
 unfold agk
 rw[ajX,List.length_take]
 simp only[List.length_nil]
 lia
theorem asb:∀ j,j<3→(PyData.str (amG j)).canLay0=true:=by decide +kernel
theorem arB:∀ j,j<3→(PyData.str (apL j)).canLay0=true:=by decide +kernel
theorem agb (script:List Int) (first:Int) (n:Nat):((List.range n).map (afO script first)).map aaJ.name=(List.range n).map fun j=>some (amG j):=by rw[List.map_map]; rfl
theorem agR:∀ n,n≤3→((List.range n).map fun j=>some (amG j)).Nodup:=by decide +kernel
theorem agw:∀ n,n≤3→(((List.range n).map fun j=>some (amG j)).set (n - 1) none).Nodup:=by decide +kernel
theorem anT (script:List Int):acw (acx script):=by
 obtain⟨n1,n2⟩:=agN (aaS script)
 have hv:∀ j,j<3→∀ p,p=afO script (aaS script) j→(1≤p.count∧p.count≤3)∧(p.name=none→p.dflt=none)∧(∀ n,p.name=some n→(PyData.str n).canLay0=true)∧∀ d,p.dflt=some d→(PyData.str d).canLay0=true:=by
  rintro j hj _ rfl
  have h1:0≤(acP script (aaS script) j).fmod 3:=Int.fmod_nonneg_of_pos _ (by decide)
  have h2:(acP script (aaS script) j).fmod 3<3:=Int.fmod_lt_of_pos _ (by decide)
  refine⟨?_,fun e=>(by cases e),fun n e=>?_,fun d e=>?_⟩
  ·show 1≤(1+(acP script (aaS script) j).fmod 3).toNat∧(1+(acP script (aaS script) j).fmod 3).toNat≤3
   exact q22 ‹_› ‹_›
  ·cases e; exact asb j hj
  ·have e:(if ((acP script (aaS script) j).fdiv 9).fmod 3=0 then some (apL j) else none)=some d:=e
   split at e
   ·cases e; exact arB j hj
   ·cases e
 have hm:∀ p∈(List.range (aiH (aaS script))).map (afO script (aaS script)),∃ j,j<3∧p=afO script (aaS script) j:=fun p mp=>by
  obtain⟨j,mj,rfl⟩:=List.mem_map.mp mp
  exact⟨j,Nat.lt_of_lt_of_le (List.mem_range.mp mj) n2,rfl⟩
 have hall:∀ p∈acx script,(1≤p.count∧p.count≤3)∧(p.name=none→p.dflt=none)∧(∀ n,p.name=some n→(PyData.str n).canLay0=true)∧∀ d,p.dflt=some d→(PyData.str d).canLay0=true:=fun p mp=>by
  unfold acx adR at mp
  split at mp
  ·rcases List.mem_or_eq_of_mem_set mp with mp | rfl
   ·obtain⟨j,hj,e⟩:=hm p mp
    exact hv j hj p e
   ·exact⟨⟨Nat.le_refl _,(show 1≤3 by decide)⟩,fun J=>rfl,fun n e=>(by cases e),fun d e=>(by cases e)⟩
  ·obtain⟨j,hj,e⟩:=hm p mp
   exact hv j hj p e
 have hl:(acx script).length=aiH (aaS script):=by
  unfold acx adR
  split<;>simp
 refine⟨by rw[hl]; exact⟨n1,n2⟩,fun p mp=>(hall p mp).1,?_,fun p mp=>(hall p mp).2.1,fun p mp=>(hall p mp).2.2⟩
 unfold acx adR
 split
 ·rw[List.map_set,agb,List.length_map,List.length_range]
  exact agw _ n2
 ·rw[agb]
  exact agR _ n2
theorem plain (script:List Int):aiu (agk script) (acx script):=alk (aq9 script) (anT script)
section
open Builtin Builtin.ObjectAttr PySem.SeqAt
theorem aff {a:Addr}(h:acC.fp a):a=268∨a=280:=by
 obtain⟨R,m,x⟩:=h
 simp only[List.mem_cons,List.not_mem_nil,or_false] at m
 rcases m with rfl | rfl
 ·exact .inl x
 ·exact .inr x
theorem ajb:freeK acC:=fun a h=>by
 have h1:¬ kfp 268:=by unfold kfp; decide +kernel
 have h2:¬ kfp 280:=by unfold kfp; decide +kernel
 rcases aff h with rfl | rfl
 ·exact h1
 ·exact h2
theorem ake {s:Shared}(h:acC.P s) {a:Addr}(ha:acC.fp a):s.heap.get? a=some { cls:=.none,data:=.fields #[] }:=by
 have h0:aaf s [aat none,plR 280 #[]]:=h
 rcases aff ha with rfl | rfl
 ·exact h0.1
 ·exact h0.2.2.1
section
variable {w:World}{A:Around}{s:Shared}
theorem arU {sl:Addr}{svs:List Value}{script:List Int}{Q:Value→Shared→Prop}(r:aah A 81 303) (B:Bs w s.heap) (hp:acC.P s) (hs:s.heap.IsList sl svs.toArray) (hi:IntsAre svs script) (hsz:svs.length≤63) (P:aiu (agk script) (acx script)) (hg:s.gens = #[])
  (h:∀ s',OldK s.heap s'.heap→s'.os=s.os→AllBare s'.gens→Q (.bool true) s'):WP w A (call (.ref 333) [.ref sl]) Q s:=by
 have hfp:¬ acC.fp sl:=fun x=>by
  obtain⟨o,ho,hc,_⟩:=hs
  rw[ake hp x] at ho
  cases ho
  cases hc
 refine aiU r B hp ajb fun A' env s₁ r' F C H=>?_
 refine atP r'.handled F C hs hfp hi hsz H fun s₂ v1 v2 v4 v5 al vl av vvs D H hav hd=>?_
 refine atO (r'.mono (by decide) (by decide)) F C P hav hd H fun s3 v6 v7 b bvs m D H hm ra hvl hd hb hbd=>?_
 refine atF r' F C P hm ra hvl hd hb hbd H fun s' R₁ D' tl tvs R' hT hn H=>?_
 have hT':=hT s' (H.at [_,_,_,_,_,_])
 have hk:=H.at [_]
 refine h s' ⟨fun a o e=>?_,fun a o e=>?_⟩ hk.kept.os fun y hy=>?_
 ·by_cases ha:acC.fp a
  ·have e2:=ake hp ha
   rw[e] at e2
   cases e2
   have hpl:aaf s [aat none,plR 280 #[]]:=hp
   rcases aff ha with rfl | rfl
   ·obtain⟨ps,eps⟩:=hT'.a
    exact .inr (.inl ⟨(atg B (show s.heap.get? 268=_ from hpl.1)).isCodeTable,rfl,#[],ps,rfl,by rw[eps]; simp⟩)
   ·obtain⟨ps,eps⟩:=hT'.b
    exact .inr (.inl ⟨(ata B (show s.heap.get? 280=_ from hpl.2.2.1)).isCodeTable,rfl,#[],ps,rfl,by rw[eps]; simp⟩)
  ·exact .inl (hk.kept.heap a o ha e)
 ·by_cases ha:acC.fp a
  ·rcases aff ha with rfl | rfl
   ·obtain⟨ps,eps⟩:=hT'.a
    exact⟨_,eps⟩
   ·obtain⟨ps,eps⟩:=hT'.b
    exact⟨_,eps⟩
  ·exact⟨_,hk.kept.heap a o ha e⟩
 ·obtain⟨i,hi,rfl⟩:=Array.mem_iff_getElem.mp hy
  refine H.1 i _ (Array.getElem?_eq_getElem hi) fun R mR x=>?_
  simp only[List.mem_cons,List.not_mem_nil,or_false] at mR
  rcases mR with rfl | rfl | rfl | rfl | rfl | rfl | rfl
  ·exact hn.1 i x
  ·have h1:i<s.gens.size:=x.1
   rw[hg] at h1
   exact absurd h1 (Nat.not_lt_zero _)
  ·exact abp _ i x
  ·exact x
  ·exact ahz m i x
  ·exact x
  ·exact hn.2.1 i x
end
end
section
open PySem.Spec
theorem aeK {M:Model}{R:Result→Shared→Prop}{s:Shared}{r:Result}{c:Code}{p:Pos}(hl:leftWithCleanup s.gens=false) (hR:R r s):aao M R s ⟨leafOf r,c,p,[]⟩:=by
 refine⟨1,r,s,?_,hR⟩
 have h:M.step s ⟨leafOf r,c,p,[]⟩=.halt (outcomeOf r) s:=by
  rw[step_leaf_nil]
  unfold finish
  rw[hl]; rfl
 have hq:Thread.loud ⟨leafOf r,c,p,[]⟩=false:=by cases r<;>rfl
 rw[Model.step_quiet M hq] at h
 simp only[amY,afA hq,h]
theorem apE {prog:Program}{w:World}{t:Sem PySem.Fin}{s:Shared}{R:Result→Shared→Prop}(hreg:s.asleep)
  (h:wpX (model prog w) callerA t (fun fin s'=>∃ f,fin=.done f∧(R (.ok f) s'∧leftWithCleanup s'.gens=false)) (fun e s'=>R (.error e) s'∧leftWithCleanup s'.gens=false) s) :
  ∃ n r s' s'',runN (denote table) prog w n s ⟨t,.builtin "claim.caller" {},default,[]⟩=.halted (outcomeOf r) s' ∧
   schedN (denote table) prog w n (.single s ⟨t,.builtin "claim.caller" {},default,[]⟩)=.halted (outcomeOf r) s'∧s'.forget=s''.forget∧R r s'':=by
 have x:=h R (.builtin "claim.caller" {}) [] default .pure .raise id id caller_in (fun fin p' s' hf=>?_) (fun e p' s' he=>?_)
 ·rw[ajt] at x
  obtain⟨n,r,s',hn,hR⟩:=x
  obtain⟨s'',h1,h2,h3⟩:=aky (denote table) prog w hn (outcomeOf_ends r) hreg
  exact⟨n,r,s'',s',h2,h1,h3,hR⟩
 ·obtain⟨f,rfl,hR,hl⟩:=hf
  exact aeK (r:=.ok f) hl hR
 ·exact aeK (r:=.error e) he.2 he.1
end
noncomputable def Yf (s:Shared):List (Option Obj) × (Option Obj × Option Obj × Bool × Option Value) × Nat × Nat:=(acv.map s.heap.get?,(s.heap.get? 268,s.heap.get? 280,s.heap.isNs cStatics,s.heap.nsMap cStatics "thirdparty.any"),s.heap.objs.size,s.toks)
noncomputable def Ya (w:World):List (Option Obj) × (Option Obj × Option Obj × Bool × Option Value) × Nat × Nat:=((K w.params).map (fun p=>some p.2),(some { cls:=.none,data:=.fields #[] },some { cls:=.none,data:=.fields #[] },true,none),334,663)
theorem aoN (w:World):(fencedOpening treeTable pw w 2800).map (fun s=>(s.heap,s.gens,s.drawn,s.toks))=some (boot_heap w.params,Array.mk [],boot_drawn,boot_toks):=
 boot_open (p:=pw) (N:=2800) (by kernel_rfl) (by kernel_rfl) (fun s=>by kernel_rfl) w
theorem size_eq (P:Params):((boot_heap P).isNs mainGlobals&&(Array.mk []:Array GenState).size==0,(boot_heap P).objs.size,(boot_heap P).nsMap mainGlobals "__annotations__")=(true,11,some (.ref 6)):=by kernel_rfl
theorem agv {p q:Program}{adl:List Str}{Xt:Shared→Bool}{α:Type}{Yf:Shared→α}{Ya:World→α}{N:Nat}{H0':Params→Heap}{gs0:Array GenState}{d0':Drawn}{k0' m0':Nat}{ann:Option Value}
  (open_:∀ w:World,(fencedOpening treeTable p w N).map (fun s=>(s.heap,s.gens,s.drawn,s.toks))=some (H0' w.params,gs0,d0',k0'))
  (size:∀ w:World,((H0' w.params).isNs mainGlobals&&gs0.size==0,(H0' w.params).objs.size,(H0' w.params).nsMap mainGlobals "__annotations__")=(true,m0',ann))
  (run:∀ (w:World) (os:OsState),∃ s₁,topRun treeTable p w m0' ann N ⟨H0' w.params,gs0,d0',k0',os⟩ (topStub p)=some s₁ ∧
   (staticsOk (importedModules p.main.body) (H0' w.params) s₁.heap&&namesBound p s₁.heap&&gensDone s₁&&laidKept (H0' w.params) s₁.heap)=true ∧
   openSeen q adl (importedModules p.main.body) Xt true s₁=openGood q adl∧Yf s₁=Ya w):LeftO p q adl Xt Yf Ya N:=fun w=>by
 obtain⟨⟨h,gs,d,k,os⟩,e,e'⟩:=Option.map_eq_some_iff.mp (open_ w)
 obtain⟨rfl,rfl,rfl,rfl⟩:h=H0' w.params∧gs=gs0∧d=d0'∧k=k0':=by simpa using e'
 obtain⟨z1,z2,z3⟩:_∧_∧_:=by simpa only[Prod.mk.injEq] using size w
 obtain⟨s₁,r,l1,l2,l3⟩:=run w os
 have t:topFrom treeTable p w N ⟨H0' w.params,gs,d,k,os⟩=some s₁:=by
  unfold topFrom
  rw[z1,z2,z3,r]
  show (match staticsOk (importedModules p.main.body) (H0' w.params) s₁.heap&&namesBound p s₁.heap&&gensDone s₁&&laidKept (H0' w.params) s₁.heap with | true=>_ | false=>_)=_
  rw[l1]
 unfold openEnds
 rw[e]
 show (topFrom treeTable p w N _).map _=_
 rw[t]
 exact congrArg some (Prod.ext l2 l3)
theorem apA (w:World) (os:OsState):∃ s₁,topRun treeTable pw w 11 (some (.ref 6)) 2800 ⟨boot_heap w.params,Array.mk [],boot_drawn,boot_toks,os⟩ (topStub pw)=some s₁ ∧
   (staticsOk (importedModules pw.main.body) (boot_heap w.params) s₁.heap&&namesBound pw s₁.heap&&gensDone s₁&&laidKept (boot_heap w.params) s₁.heap)=true ∧
   openSeen q adl (importedModules pw.main.body) (fun J=>true) true s₁=openGood q adl∧Yf s₁=Ya w:=by
 have R:=aoV w os
 rw[aeO] at R
 have ab:(⟨bt w.params,11,{},Array.mk [],boot_drawn,boot_toks,os⟩:SharedT).abs=⟨boot_heap w.params,Array.mk [],boot_drawn,boot_toks,os⟩:=
  congrArg (fun h=>(⟨h,Array.mk [],boot_drawn,boot_toks,os⟩:Shared)) (ap6 w.params)
 rw[← ab]
 generalize topStub pw=th at R ⊢
 generalize (⟨bt w.params,11,{},Array.mk [],boot_drawn,boot_toks,os⟩:SharedT)=st at R ⊢
 obtain⟨sT,r1,r2⟩:=Option.map_eq_some_iff.mp R
 refine⟨sT.abs,aeR r1,?_⟩
 generalize sT.abs=s₁ at r2 ⊢
 unfold obs at r2
 rw[← PySem.W.Fast.te4187177175401517315] at r2
 obtain⟨l1,l2⟩:=Prod.mk.inj r2
 obtain⟨l2,l3⟩:=Prod.mk.inj l2
 exact⟨l1,l2,l3⟩
theorem left:LeftO pw q adl (fun J=>true) Yf Ya 2800:=agv aoN (fun w=>size_eq w.params) apA
theorem ajd:PySem.W.Fast.tw9446332074065402090 rl=true:=by kernel_rfl
theorem wellSaid:rl.wellSaid=true:=(congrFun PySem.W.Fast.te9446332074065402090 _).trans ajd
noncomputable def asD:Stmt→Pos
 | .FunctionDef _ _ _ _ _ _ _ _ _ p=>p
 | _=>default
noncomputable def aoO:DefRec:=⟨apY (D 17),ab8 (D 17),aaa (D 17),abm (D 17),asD (D 17)⟩
theorem afP:defOf q rl.row.name=some (aoO,[]):=by kernel_rfl
theorem ai5:rl.row.prog.theDef rl.row.name=some (aoO.params,aoO.body,aoO.scope):=by kernel_rfl
theorem apm:kwWritten? aoO.params.kwonlyargs aoO.params.kw_defaults=some []:=by kernel_rfl
theorem aq4:(chainsOk q&&opensWell rl.row.prog&&(frees rl.row.toRowW&&rl.row.toRowW.within.isEmpty))=true:=by kernel_rfl
theorem adx:rl.row.toRowW.promised:=by w_witness2
section
open PySem.Spec
structure PX (E:Result→Shared→Prop) (s0:Shared) (kept:Heap→Prop) (r:Result) (s:Shared):Prop where
 ends:E r s
 os:s.os=s0.os
 bare:AllBare s.gens
 kept:kept s.heap
theorem aoZ {V:Type}{p p':V→Prop}{a:Prop}{b c:V→Prop}{d d' e:Prop}(hp:∀ v,p v→p' v) (hd:d→d'):(∃ v,p v∧a∧b v∧c v∧d∧e)→∃ v,p' v∧a∧b v∧c v∧d'∧e:=
 fun ⟨v,x,y⟩=>⟨v,hp v x,y.1,y.2.1,y.2.2.1,hd y.2.2.2.1,y.2.2.2.2⟩
theorem an4 {α β γ:Type}{p p':α→Prop}{q1:α→β→Prop}{q2:β→γ→Prop}{q3:γ→Prop}{q4:α→Prop}{d d':Prop}(hp:∀ v,p v→p' v) (hd:d→d'):(∃ e ob cls,p e∧q1 e ob∧q2 ob cls∧q3 cls∧q4 e∧d)→∃ e ob cls,p' e∧q1 e ob∧q2 ob cls∧q3 cls∧q4 e∧d':=
 fun ⟨e,o,c,x,y⟩=>⟨e,o,c,hp e x,y.1,y.2.1,y.2.2.1,y.2.2.2.1,hd y.2.2.2.2⟩
theorem ajG {c:ClaimW}{tree:List Value→Sem PySem.Fin}{w:World}{s:Shared}{free:Addr→Prop}{gens:Prop}{kept:Heap→Prop}(hz:s.asleep) (hg0:s.gens = #[])
  (spec:∀ args,c.pre args=true→WData.layableAll args=true→∀ ord:List DictEntry→List DictEntry,(∀ l,(ord l).Perm l)→
   ∃ vs s₁,layAllW c.records (classAt s.heap) w.params ord args s=some (vs,s₁) ∧
    wpX (model c.prog w) callerA (tree vs) (fun fin s'=>∃ f,fin=.done f∧PX (c.Ends s args vs s₁) s kept (.ok f) s')
     (fun e s'=>PX (c.Ends s args vs s₁) s kept (.error e) s') s₁) :
  c.CallFrom (fun vs=>⟨tree vs,.builtin "claim.caller" {},default,[]⟩) w free gens kept s:=fun args hpre hlay ord hord=>by
 obtain⟨vs,s₁,laid,hx⟩:=spec args hpre hlay ord hord
 have rest:=layAllW_rest _ _ _ laid
 obtain⟨k,r,s',s'',hrun,hsched,hf,p⟩:=apE (prog:=c.prog) (w:=w) (t:=tree vs) (s:=s₁) (R:=PX (c.Ends s args vs s₁) s kept)
  (Shared.asleep_of_life rest.2.2.2 hz)
  (aa4 hx (fun fin s' x=>x.elim fun f h=>⟨f,h.1,h.2,leftWithCleanup_false_of_bare h.2.bare⟩) fun e s' p=>⟨p,leftWithCleanup_false_of_bare p.bare⟩)
 obtain⟨eh,_,_,eo,_⟩:=Shared.forget_eq hf
 have ends:=p.ends.congr eh
 have hk':kept s'.heap:=eh▸p.kept
 have hos':s'.os=s.os:=eo.trans p.os
 have life:s'.heap.life=s.heap.life:=(runN_life _ _ _ hrun).trans rest.2.2.2
 exact⟨vs,s₁,laid,k,_,s',hsched,ends.imp (aoZ (fun J e=>congrArg outcomeOf e) fun d b o y J=>d b o y) (an4 (fun J e=>congrArg outcomeOf e) fun d b o y J=>d b o y),fun J i x hx=>by rw[hg0] at hx; simp at hx,hk',by rw[life],Shared.rest_eq hos'⟩
theorem am5:chainsOk q=true∧opensWell rl.row.prog=true∧frees rl.row.toRowW=true∧rl.row.toRowW.within.isEmpty=true:=by
 have h:=aq4
 simp only[Bool.and_eq_true] at h
 exact⟨h.1.1,h.1.2,h.2.1,h.2.2⟩
noncomputable def apw:Prop:=∀ (w:World) (s0 s₁:Shared) (mg mb:Str→Option Value),Ground q adl rl.row.toRowW.records (fun J J=>True) w s0 mg mb s₁.heap→Yf s0=Ya w→∀ f,mg rl.row.name=some f→s₁.gens = #[]→
  ∀ (args:List WData) (vals:List Value) (as:List Addr),Laid rl.row.toRowW.records w s0 s₁ args vals as→rl.row.toRowW.claim.pre args=true→WData.layableAll args=true→ReadsAllW rl.row.toRowW.records (classAt s0.heap) s₁.heap vals args as→WellAll w.params s₁.heap vals args→
   wpX (model pw w) callerA (PySem.call f vals) (fun v s'=>GoodWG rl.row.toRowW.claim (classAt s0.heap) (ExcName.means s0.heap) args s₁ (.ok (.ret v)) s') F0 s₁
theorem headX (call:apw):rl.Holds:=holds_law wellSaid fun said=>by
 obtain⟨hch,o1,k5,k6⟩:=am5
 obtain⟨hsame,hu,ha,hap,hm⟩:=frees_parts k5
 have RF0:∀ s:Shared,RecFacts rl.row.toRowW.records s.heap:=fun s=>recFacts_nil rfl
 have bd:=left.behind (XP:=fun J h=>True∧RecFacts rl.row.toRowW.records h) (fun s J=>⟨trivial,RF0 s⟩) hch
 refine⟨said,adx,⟨⟨⟨rfl,rfl,rfl,rfl,rfl,by decide +kernel⟩,o1,rfl⟩,adx.witness,fun w=>⟨(bd w).1,fun s' hs'=>?_⟩⟩⟩
 obtain⟨s0,hf,hg0,s,hT,hz,hgens,hg,G00,y⟩:=(bd w).2 s' hs'
 have G0:Ground q adl [] (fun J J=>True) w s (s.heap.nsMap mainGlobals) (s.heap.nsMap builtinsNs) s.heap:=⟨G00.T,G00.B,G00.D,G00.TE,G00.TD,G00.W,trivial,G00.cls,G00.has,G00.apart,G00.once,G00.K⟩
 have RF:=G00.X.2
 have hT':=hT
 refine⟨s0,hf,hg0,s,hT,fun n hn=>?_,RF.1,RF.2.1,?_⟩
 ·obtain rfl:n=rl.row.name:=by split at hn<;>simp_all
  exact pinned_of_view hg G0 afP ai5 apm
 have hgens:s.gens = #[]:=Array.eq_empty_of_size_eq_zero (beq_iff_eq.mp hgens)
 have G:Ground q adl rl.row.toRowW.records (fun J J=>True) w s _ _ s.heap:=RF.ground G0
 refine ajG (c:=rl.row.toRowW.claim) (tree:=fun vs=>do match ← nsGet mainNs rl.row.name with
   | some f=>do ret (← PySem.call f vs)
   | none=>unsupported "claim.caller:no-such-global") hz hgens fun args hpre hlay ord hord=>?_
 obtain⟨⟨vs,s₁⟩,hlaid⟩:=Option.isSome_iff_exists.mp (layAllW_isSome (P:=w.params) (ord:=ord) G.has args rl.row.toRowW.args s (pre_splitW hpre).1)
 have keeps:=layAllW_keeps _ _ _ hlaid
 have hal:=layAllW_rest _ _ _ hlaid
 obtain⟨as,hrd,hin,hold⟩:=reads_layAllW hord _ _ _ hlaid hlay s₁.heap (fun J J e=>e)
 have L:Laid rl.row.toRowW.records w s s₁ args vs as:=⟨⟨ord,hord,hlaid⟩,hrd,hin,hold,keeps,hal.1.trans hgens,hal.2.2.1⟩
 have G1':=G.keeps (fun J J J J J=>trivial) keeps
 obtain⟨a,o,pm,cd,doc,dV,kV,h1,h2,h3,h4,h5⟩:=G1'.fn afP
 have hx:=call w s s₁ _ _ G1' y _ h1 L.gens args vs as L hpre hlay L.reads L.well
 have hi:=ident_freeW hu ha hap
 have hwi:rl.row.toRowW.claim.within=[]:=List.isEmpty_iff.mp k6
 have hwr:(!rl.row.writes||rl.row.toRowW.records.isEmpty)=true:=rfl
 refine⟨vs,s₁,hlaid,aby (wpAny_nsGet G1'.T.g ?_)⟩
 rw[h1]
 refine aad (aa4 hx (fun v s' g=>?_) fun J J x=>x.elim)
 refine aag ⟨_,rfl,?_⟩
 have z:=g.laid (c:=rl.row.toRowW.claim) hsame hwi hi L
 exact⟨z.1,z.2.1,z.2.2,fun q=>⟨namesKept_of hT' hg _ keeps g.2.1.old,noTable hwr q⟩⟩
theorem alS {R:WRecords}:∀ {xs:List WData},WShape.hasItems R xs .int=true→∃ ns:List Int,xs=ns.map .int:=by
 intro xX
 induction xX with
 | nil=>exact @fun J=>⟨[],rfl⟩
 | cons x xs ih=>
  refine @fun h=>?_
  have h':WShape.has R x .int=true∧WShape.hasItems R xs .int=true:=by simpa [WShape.hasItems] using h
  obtain⟨i,rfl⟩:=hasW_int h'.1
  obtain⟨ns,rfl⟩:=ih h'.2
  exact⟨i::ns,rfl⟩
theorem aib {R:WRecords}{cl:Str→Option Addr}{h:Heap}(ns:List Int):∀ {vs:List Value}{as:List Addr},ReadsAllW R cl h vs (ns.map .int) as→IntsAre vs ns:=by
 induction ns with
 | nil=>intro vs as x; cases x; exact .nil
 | cons n ns ih=>
  intro vs as x
  cases x with
  | cons a r=>
   cases a
   exact .cons _ _ (ih r)
theorem aoI {args:List WData}(h:rl.row.toRowW.claim.pre args=true):∃ ns:List Int,args=[.list (ns.map .int)]∧ns.length≤63:=by
 obtain⟨h1,h2⟩:=pre_splitW h
 obtain⟨d,r,rfl,hd,hr⟩:=hasAllW_cons (e:=.list .int) (es:=[]) h1
 have e:=hasAllW_nil hr
 subst e
 obtain⟨xs,rfl,hx⟩:=hasW_list hd
 obtain⟨ns,rfl⟩:=alS hx
 refine⟨ns,rfl,?_⟩
 have e:rl.row.toRowW.pre=.and (.not (.lt (.lit (.int 63)) (.len (.arg 0)))) (.lit (.bool true)):=rfl
 rw[e] at h2
 have k:(WTm.value rl.row.toRowW.records (.not (.lt (.lit (.int 63)) (.len (.arg 0)))) { args:=[.list (ns.map .int)] })=some (.bool (!decide ((63:Int)<(ns.map WData.int).length))):=rfl
 by_cases hc:(63:Int)<(ns.map WData.int).length
 ·rw[decide_eq_true hc] at k
  unfold WTm.holds at h2
  rw[show WTm.value rl.row.toRowW.records (.and (.not (.lt (.lit (.int 63)) (.len (.arg 0)))) (.lit (.bool true))) { args:=[.list (ns.map .int)] }=some (.bool false) from by rw[WTm.value,k]; rfl] at h2
  cases h2
 ·rw[List.length_map] at hc
  lia
theorem ary {w:World}{s0 s₁:Shared}{mg mb:Str→Option Value}(G:Ground q adl rl.row.toRowW.records (fun J J=>True) w s0 mg mb s₁.heap) (hy:Yf s0=Ya w) (hk:∀ b o,s0.heap.get? b=some o→s₁.heap.get? b=some o):Bs w s₁.heap∧acC.P s₁∧mg=mgK w.params:=by
 obtain⟨y1,y2⟩:=Prod.mk.inj hy
 obtain⟨y2,y3⟩:=Prod.mk.inj y2
 obtain⟨t1,t2⟩:=Prod.mk.inj y2
 obtain⟨t2,t3⟩:=Prod.mk.inj t2
 obtain⟨t3,t4⟩:=Prod.mk.inj t3
 have hK:∀ p∈K w.params,s₁.heap.get? p.1=some p.2:=by
  simp only[← adL w.params,List.map_map] at y1
  exact fun p hp=>hk _ _ (agj (f:=fun p:Nat × Obj=>s0.heap.get? p.1) (g:=fun p=>some p.2) y1 p hp)
 have g0:s₁.heap.Ns mainGlobals (mgK w.params):=⟨_,_,_,hK _ (ahr _),afL _,ag9 _,fun J=>rfl⟩
 have emg:mg=mgK w.params:=G.T.g.eq_nsMap.trans g0.eq_nsMap.symm
 obtain⟨bm,ob,h1,_,h3,h4,h5,h6⟩:=G.T.bmain
 rw[emg,aop] at h1
 cases h1
 exact⟨⟨hK,G.T.nolimit,⟨_,(Heap.Ns.of_isNs t3).keeps hk,t4⟩,⟨ob,h3,h4,h5,h6⟩,⟨_,G.T.b,G.T.builtins⟩⟩,
  ⟨hk _ _ t1,fun R' m=>(by
   rw[List.mem_singleton.mp m]
   exact⟨fun a (e:a=268) (e':a=280)=>absurd (e.symm.trans e') (by decide),fun J z=>z.elim⟩),hk _ _ t2,fun J m=>(nomatch m),trivial⟩,emg⟩
set_option tactic.hygienic true in
theorem callX (plain:∀ script:List Int,aiu (agk script) (acx script)):apw:=by
 intro w s0 s₁ mg mb G hy f hf hg args vals as L hpre hlay hrd hwell
 obtain⟨B,hp,emg⟩:=ary G hy L.keeps
 obtain⟨ns,rfl,hn⟩:=aoI hpre
 have ef:f=.ref 333:=by
  rw[emg] at hf
  have h1:=agj (ape w.params) ("law",.ref 333) (by decide +kernel)
  exact Option.some.inj (hf.symm.trans h1)
 subst ef
 cases hrd with
 | cons hv hr=>
  cases hr
  cases hv with
  | list h1 h2 h3 h4=>
   rename_i a o vs n as'
   have hi:=aib ns h4
   have hs:s₁.heap.IsList a vs.toList.toArray:=⟨o,h1,h2,n,by simpa using h3⟩
   have r:aah callerA 81 303:=⟨rfl,by decide,by decide⟩
   refine (arU r B hp hs hi (by rw[hi.length]; exact hn) (plain ns) hg fun s' hK hos hb=>?_).go
   exact⟨.inl ⟨.bool true,.bool true,[],rfl,fun cls=>rfl,.bool _,by first | kernel_rfl | with_unfolding_all rfl,fun J=>⟨List.nodup_nil,fun J m=>(nomatch m)⟩⟩,hK,hos,hb⟩
end
end Mine
theorem PySem.Challenge.cw_jf0029_01_holds : PySem.Challenge.rw_jf0029_01.Holds :=
 Mine.headX (Mine.callX Mine.plain)
